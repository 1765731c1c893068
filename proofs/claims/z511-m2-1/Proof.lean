import JvmDerived
import JvmDerived.Pilot.@@N@@Statement
import JvmDerived.Pilot.@@N@@Code
set_option linter.unusedVariables false
set_option linter.unusedSimpArgs false
namespace Jvm.RoadKit
open Sem ClassFile Op Lib Jvm.Stand Jvm.Free Jvm.LawKit
section New
variable {p : Program} {l : Launch} {e : Env} {R : Room} {s : State} {m : MethodId} {args : Array Value} {below : List Frame} {meth : Method} {c : Code} {T : State} {locs : List Loc} {cells slots : Nat}
theorem retI (X : Stand p l e R s m args below meth c T locs cells slots) (hx : p.tables.exec = Jvm.exec) {pc : Nat} {Ls : Array Slot} {z : Int32} {rest : List Value} (hret : meth.sig.returnType = some .int) (hd : decode c.code pc = .ok (.ireturn, 1)) {fs : List Frame}
    (hl : ∀ (f : JFrame) (acts : List Action), f.method = m → f.locked = none → f.entered = [] → (doReturn e (T.setTop f) acts (some (.int z))).1 = T.setFrames fs) : Steps p.tables e below (T.setTop (mkF m pc Ls (.int z :: rest))) (T.setFrames fs) := by
  have hm' : T.vm.method? m = some meth := X.method'
  have hn : narrow .int (.int z) = .int z := rfl
  show Steps p.tables e below (T.setTop { method := m, pc := pc, locals := Ls, stack := _ :: rest, locked := none }) _
  jvm_step X.here [X.here.top, hx, hd, hm', hret, hn]
  first | (intro acts; rw [hl _ acts rfl rfl rfl]) | rw [hl _ _ rfl rfl rfl]
  exact Steps.refl _
end New
end Jvm.RoadKit
namespace Jvm.Pilot.@@N@@
open Jvm Jvm.ClassFile Sem Op Lib Jvm.Free Jvm.Stand Jvm.LawKit Jvm.RoadKit Bundle Jvm.Pilot.@@N@@.Jvm.D
def own_any (xs : List Int32) : Int32 := if xs.all (fun x => x == 0) then 0 else 1
def own_min (a b : Int32) : Int32 := if b < a then b else a
theorem own_narb {r : Int32} (h : r = (0 : Int32) ∨ r = (1 : Int32)) : nar .boolean r = r := by rcases h with rfl | rfl <;> decide
theorem own_ag1 (x : Int32) : ¬ (x = x + (1 : Int32)) := fun q => by
  have h1 := c_iadd x 1
  have h2 := congrArg Int32.toInt q
  rw [show (1 : Int32).toInt = 1 by decide] at h1; omega
theorem own_ag2 (x : Int32) : ¬ (x + (1 : Int32) = x + (2 : Int32)) := fun q => by
  have h1 := c_iadd x 1
  have h3 := c_iadd x 2
  have h2 := congrArg Int32.toInt q
  rw [show (1 : Int32).toInt = 1 by decide] at h1; rw [show (2 : Int32).toInt = 2 by decide] at h3; omega
theorem own_ag3 (x : Int32) : ¬ (x + (2 : Int32) = x + (3 : Int32)) := fun q => by
  have h1 := c_iadd x 2
  have h3 := c_iadd x 3
  have h2 := congrArg Int32.toInt q
  rw [show (2 : Int32).toInt = 2 by decide] at h1; rw [show (3 : Int32).toInt = 3 by decide] at h3; omega
theorem own_lit (x : Int32) (n : Nat) (h : x.toInt = n) (hn : n < 5) : x = (0 : Int32) ∨ x = (1 : Int32) ∨ x = (2 : Int32) ∨ x = (3 : Int32) ∨ x = (4 : Int32) := by
  have : n = 0 ∨ n = 1 ∨ n = 2 ∨ n = 3 ∨ n = 4 := by omega
  rcases this with rfl | rfl | rfl | rfl | rfl
  · exact Or.inl (Int32.toInt_inj.mp h)
  · exact Or.inr (Or.inl (Int32.toInt_inj.mp h))
  · exact Or.inr (Or.inr (Or.inl (Int32.toInt_inj.mp h)))
  · exact Or.inr (Or.inr (Or.inr (Or.inl (Int32.toInt_inj.mp h))))
  · exact Or.inr (Or.inr (Or.inr (Or.inr (Int32.toInt_inj.mp h))))
theorem own_five {p0 nn : Int32} (h : nn = ((p0 &&& (2147483647 : Int32)) % (5 : Int32))) : nn = (0 : Int32) ∨ nn = (1 : Int32) ∨ nn = (2 : Int32) ∨ nn = (3 : Int32) ∨ nn = (4 : Int32) := by
  have d1 := c_mask p0 2147483647 31 (by decide) (by decide)
  have i1 := (c_iremV (p0 &&& (2147483647 : Int32)) 5).1 (by omega) (by decide)
  rw [← h, show (5 : Int32).toInt = 5 by decide] at i1
  exact own_lit nn nn.toInt.toNat (by omega) (by omega)
theorem own_k (p1 kk : Int32) (N : Nat) (hN : N < 5) (n : Int32) (hn : n.toInt = N) (h : kk = own_min (p1 &&& (3 : Int32)) n) : 0 ≤ kk.toInt ∧ kk.toInt ≤ 3 ∧ kk.toInt ≤ N := by
  have d1 := c_mask p1 3 2 (by decide) (by decide)
  unfold own_min at h
  split at h
  · rename_i q
    rw [Int32.lt_iff_toInt_lt] at q
    subst h; omega
  · rename_i q
    rw [Int32.lt_iff_toInt_lt] at q
    subst h; omega
theorem own_k0 {p1 kk : Int32} (h : kk = (own_min (p1 &&& (3 : Int32)) (0 : Int32))) : kk = (0 : Int32) := by
  have := own_k p1 kk 0 (by decide) 0 (by decide) h
  exact Int32.toInt_inj.mp (by rw [show (0 : Int32).toInt = 0 by decide]; omega)
theorem own_k1 {p1 kk : Int32} (h : kk = (own_min (p1 &&& (3 : Int32)) (1 : Int32))) : kk = (0 : Int32) ∨ kk = (1 : Int32) := by
  have a := own_k p1 kk 1 (by decide) 1 (by decide) h
  rcases own_lit kk kk.toInt.toNat (by omega) (by omega) with q | q | q | q | q
  · exact Or.inl q
  · exact Or.inr q
  all_goals (exfalso; subst q; revert a; decide)
theorem own_k2 {p1 kk : Int32} (h : kk = (own_min (p1 &&& (3 : Int32)) (2 : Int32))) : kk = (0 : Int32) ∨ kk = (1 : Int32) ∨ kk = (2 : Int32) := by
  have a := own_k p1 kk 2 (by decide) 2 (by decide) h
  rcases own_lit kk kk.toInt.toNat (by omega) (by omega) with q | q | q | q | q
  · exact Or.inl q
  · exact Or.inr (Or.inl q)
  · exact Or.inr (Or.inr q)
  all_goals (exfalso; subst q; revert a; decide)
theorem own_k34 {p1 kk n : Int32} {N : Nat} (hN : N < 5) (hn : n.toInt = N) (h : kk = (own_min (p1 &&& (3 : Int32)) n)) : kk = (0 : Int32) ∨ kk = (1 : Int32) ∨ kk = (2 : Int32) ∨ kk = (3 : Int32) := by
  have a := own_k p1 kk N hN n hn h
  rcases own_lit kk kk.toInt.toNat (by omega) (by omega) with q | q | q | q | q
  · exact Or.inl q
  · exact Or.inr (Or.inl q)
  · exact Or.inr (Or.inr (Or.inl q))
  · exact Or.inr (Or.inr (Or.inr q))
  · exfalso; subst q; have := a.2.1; revert this; decide
theorem own_k3 {p1 kk : Int32} (h : kk = (own_min (p1 &&& (3 : Int32)) (3 : Int32))) : kk = (0 : Int32) ∨ kk = (1 : Int32) ∨ kk = (2 : Int32) ∨ kk = (3 : Int32) := own_k34 (N := 3) (by decide) (by decide) h
theorem own_k4 {p1 kk : Int32} (h : kk = (own_min (p1 &&& (3 : Int32)) (4 : Int32))) : kk = (0 : Int32) ∨ kk = (1 : Int32) ∨ kk = (2 : Int32) ∨ kk = (3 : Int32) := own_k34 (N := 4) (by decide) (by decide) h

theorem ltA {a b : Nat} (h : @LT.lt Addr instLTNat a b) : @LT.lt Nat instLTNat a b := h
theorem ltN {a b : Nat} (h : @LT.lt Nat instLTNat a b) : @LT.lt Addr instLTNat a b := h
theorem neN {a b : Nat} (h : @Ne Nat a b) : @Ne Addr a b := h
abbrev GO (p : Program) (e : Env) (below : List Frame) (T : State) (g : JFrame) (t : State) : Prop := Steps p.tables e below (T.setTop g) t
theorem wd {Z : State} {a0 : Array Value} (hw : ∀ d ∈ tables_1, d.before a0 Z = true) (i : Nat) {d : Jvm.Cond} (h : tables_1[i]? = some d) : d.before a0 Z = true := hw _ (List.mem_of_getElem? h)
abbrev la0 (x0 : Addr) (x1 : Int32) (x2 : Int32) (x3 : UInt64) (x5 : Int32) : Array Slot := #[.val (.ref x0), .val (.int x1), .val (.int x2), .val (.double x3), .second, .val (.int x5), .unset, .unset, .unset]
abbrev la1 (x0 : Addr) (x1 : Int32) (x2 : Int32) (x3 : UInt64) (x5 : Int32) (x6 : Int32) : Array Slot := #[.val (.ref x0), .val (.int x1), .val (.int x2), .val (.double x3), .second, .val (.int x5), .val (.int x6), .unset, .unset]
abbrev la2 (x0 : Addr) (x1 : Int32) (x2 : Int32) (x3 : UInt64) (x5 : Int32) (x6 : Int32) (x7 : Int32) : Array Slot := #[.val (.ref x0), .val (.int x1), .val (.int x2), .val (.double x3), .second, .val (.int x5), .val (.int x6), .val (.int x7), .unset]
abbrev la3 (x0 : Addr) (x1 : Int32) (x2 : Int32) (x3 : UInt64) (x5 : Int32) (x6 : Int32) (x7 : Int32) (x8 : Int32) : Array Slot := #[.val (.ref x0), .val (.int x1), .val (.int x2), .val (.double x3), .second, .val (.int x5), .val (.int x6), .val (.int x7), .val (.int x8)]
abbrev la4 (x0 : Addr) (x1 : UInt64) : Array Slot := #[.val (.ref x0), .val (.double x1), .second]
abbrev la5 (x0 : Int32) (x1 : Int32) (x2 : Int32) (x3 : Int32) (x4 : Int32) (x5 : Int32) (x6 : Int32) (x7 : Int32) (x8 : Int32) (x9 : Int32) (x10 : Int32) (x11 : Int32) (x12 : Addr) : Array Slot := #[.val (.int x0), .val (.int x1), .val (.int x2), .val (.int x3), .val (.int x4), .val (.int x5), .val (.int x6), .val (.int x7), .val (.int x8), .val (.int x9), .val (.int x10), .val (.int x11), .val (.ref x12), .unset]
abbrev la6 (x0 : Int32) (x1 : Int32) (x2 : Int32) (x3 : Int32) (x4 : Int32) (x5 : Int32) (x6 : Int32) (x7 : Int32) (x8 : Int32) (x9 : Int32) (x10 : Int32) (x11 : Int32) (x12 : Addr) (x13 : Int32) : Array Slot := #[.val (.int x0), .val (.int x1), .val (.int x2), .val (.int x3), .val (.int x4), .val (.int x5), .val (.int x6), .val (.int x7), .val (.int x8), .val (.int x9), .val (.int x10), .val (.int x11), .val (.ref x12), .val (.int x13)]
abbrev la7 (x0 : Int32) (x1 : Int32) (x2 : Int32) (x3 : Int32) (x4 : Int32) (x5 : Int32) : Array Slot := #[.val (.int x0), .val (.int x1), .val (.int x2), .val (.int x3), .val (.int x4), .val (.int x5), .unset, .unset, .unset, .unset, .unset, .unset, .unset, .unset]
abbrev la8 (x0 : Int32) (x1 : Int32) (x2 : Int32) (x3 : Int32) (x4 : Int32) (x5 : Int32) (x6 : Int32) : Array Slot := #[.val (.int x0), .val (.int x1), .val (.int x2), .val (.int x3), .val (.int x4), .val (.int x5), .val (.int x6), .unset, .unset, .unset, .unset, .unset, .unset, .unset]
abbrev la9 (x0 : Int32) (x1 : Int32) (x2 : Int32) (x3 : Int32) (x4 : Int32) (x5 : Int32) (x6 : Int32) (x7 : Int32) : Array Slot := #[.val (.int x0), .val (.int x1), .val (.int x2), .val (.int x3), .val (.int x4), .val (.int x5), .val (.int x6), .val (.int x7), .unset, .unset, .unset, .unset, .unset, .unset]
abbrev la10 (x0 : Int32) (x1 : Int32) (x2 : Int32) (x3 : Int32) (x4 : Int32) (x5 : Int32) (x6 : Int32) (x7 : Int32) (x8 : Int32) : Array Slot := #[.val (.int x0), .val (.int x1), .val (.int x2), .val (.int x3), .val (.int x4), .val (.int x5), .val (.int x6), .val (.int x7), .val (.int x8), .unset, .unset, .unset, .unset, .unset]
abbrev la11 (x0 : Int32) (x1 : Int32) (x2 : Int32) (x3 : Int32) (x4 : Int32) (x5 : Int32) (x6 : Int32) (x7 : Int32) (x8 : Int32) (x9 : Int32) : Array Slot := #[.val (.int x0), .val (.int x1), .val (.int x2), .val (.int x3), .val (.int x4), .val (.int x5), .val (.int x6), .val (.int x7), .val (.int x8), .val (.int x9), .unset, .unset, .unset, .unset]
abbrev la12 (x0 : Int32) (x1 : Int32) (x2 : Int32) (x3 : Int32) (x4 : Int32) (x5 : Int32) (x6 : Int32) (x7 : Int32) (x8 : Int32) (x9 : Int32) (x10 : Int32) : Array Slot := #[.val (.int x0), .val (.int x1), .val (.int x2), .val (.int x3), .val (.int x4), .val (.int x5), .val (.int x6), .val (.int x7), .val (.int x8), .val (.int x9), .val (.int x10), .unset, .unset, .unset]
abbrev la13 (x0 : Int32) (x1 : Int32) (x2 : Int32) (x3 : Int32) (x4 : Int32) (x5 : Int32) (x6 : Int32) (x7 : Int32) (x8 : Int32) (x9 : Int32) (x10 : Int32) (x11 : Int32) : Array Slot := #[.val (.int x0), .val (.int x1), .val (.int x2), .val (.int x3), .val (.int x4), .val (.int x5), .val (.int x6), .val (.int x7), .val (.int x8), .val (.int x9), .val (.int x10), .val (.int x11), .unset, .unset]
theorem pd_0 : parseMethodDescriptor "()Z" = some ⟨[], some .boolean⟩ := by decide +kernel
theorem pd_1 : parseMethodDescriptor "(IIDZ)V" = some ⟨[.int, .int, .double, .boolean], none⟩ := by decide +kernel
theorem pd_2 : parseMethodDescriptor "(D)V" = some ⟨[.double], none⟩ := by decide +kernel
theorem pd_3 : parseMethodDescriptor "(II)I" = some ⟨[.int, .int], some .int⟩ := by decide +kernel
theorem pd_4 : parseMethodDescriptor "()V" = some ⟨[], none⟩ := by decide +kernel
theorem pn_0 : plainName "com/example/occupancy/occupancy/loading/Block" = true := by first | (simp [plainName, overriddenIn]; done) | decide +kernel
theorem pn_1 : plainName "com/example/occupancy/occupancy/loading/BlockHoldsRearPinLaw" = true := by first | (simp [plainName, overriddenIn]; done) | decide +kernel
theorem d2_0 : decode prog_14_method_1_code 0 = .ok (.aload_n 0, 1) := by decide +kernel
theorem d2_1 : decode prog_14_method_1_code 1 = .ok (.invokespecial 1, 3) := by decide +kernel
theorem d2_4 : decode prog_14_method_1_code 4 = .ok (.aload_n 0, 1) := by decide +kernel
theorem d2_5 : decode prog_14_method_1_code 5 = .ok (.bipush 8, 2) := by decide +kernel
theorem d2_7 : decode prog_14_method_1_code 7 = .ok (.newarray .int, 2) := by decide +kernel
theorem d2_9 : decode prog_14_method_1_code 9 = .ok (.putfield 9, 3) := by decide +kernel
theorem d2_12 : decode prog_14_method_1_code 12 = .ok (.aload_n 0, 1) := by decide +kernel
theorem d2_13 : decode prog_14_method_1_code 13 = .ok (.bipush 8, 2) := by decide +kernel
theorem d2_15 : decode prog_14_method_1_code 15 = .ok (.newarray .int, 2) := by decide +kernel
theorem d2_17 : decode prog_14_method_1_code 17 = .ok (.putfield 13, 3) := by decide +kernel
theorem d2_20 : decode prog_14_method_1_code 20 = .ok (.aload_n 0, 1) := by decide +kernel
theorem d2_21 : decode prog_14_method_1_code 21 = .ok (.bipush 8, 2) := by decide +kernel
theorem d2_23 : decode prog_14_method_1_code 23 = .ok (.newarray .double, 2) := by decide +kernel
theorem d2_25 : decode prog_14_method_1_code 25 = .ok (.putfield 16, 3) := by decide +kernel
theorem d2_28 : decode prog_14_method_1_code 28 = .ok (.aload_n 0, 1) := by decide +kernel
theorem d2_29 : decode prog_14_method_1_code 29 = .ok (.bipush 8, 2) := by decide +kernel
theorem d2_31 : decode prog_14_method_1_code 31 = .ok (.newarray .boolean, 2) := by decide +kernel
theorem d2_33 : decode prog_14_method_1_code 33 = .ok (.putfield 20, 3) := by decide +kernel
theorem d2_36 : decode prog_14_method_1_code 36 = .ok (.return_, 1) := by decide +kernel
theorem d5_0 : decode prog_14_method_11_code 0 = .ok (.aload_n 0, 1) := by decide +kernel
theorem d5_1 : decode prog_14_method_11_code 1 = .ok (.getfield 9, 3) := by decide +kernel
theorem d5_4 : decode prog_14_method_11_code 4 = .ok (.arraylength, 1) := by decide +kernel
theorem d5_5 : decode prog_14_method_11_code 5 = .ok (.iconst 1, 1) := by decide +kernel
theorem d5_6 : decode prog_14_method_11_code 6 = .ok (.isub, 1) := by decide +kernel
theorem d5_7 : decode prog_14_method_11_code 7 = .ok (.istore 6, 2) := by decide +kernel
theorem d5_9 : decode prog_14_method_11_code 9 = .ok (.aload_n 0, 1) := by decide +kernel
theorem d5_10 : decode prog_14_method_11_code 10 = .ok (.getfield 32, 3) := by decide +kernel
theorem d5_13 : decode prog_14_method_11_code 13 = .ok (.aload_n 0, 1) := by decide +kernel
theorem d5_14 : decode prog_14_method_11_code 14 = .ok (.getfield 28, 3) := by decide +kernel
theorem d5_17 : decode prog_14_method_11_code 17 = .ok (.iadd, 1) := by decide +kernel
theorem d5_18 : decode prog_14_method_11_code 18 = .ok (.iconst 1, 1) := by decide +kernel
theorem d5_19 : decode prog_14_method_11_code 19 = .ok (.isub, 1) := by decide +kernel
theorem d5_20 : decode prog_14_method_11_code 20 = .ok (.iload 6, 2) := by decide +kernel
theorem d5_22 : decode prog_14_method_11_code 22 = .ok (.iand, 1) := by decide +kernel
theorem d5_23 : decode prog_14_method_11_code 23 = .ok (.istore 7, 2) := by decide +kernel
theorem d5_25 : decode prog_14_method_11_code 25 = .ok (.aload_n 0, 1) := by decide +kernel
theorem d5_26 : decode prog_14_method_11_code 26 = .ok (.getfield 28, 3) := by decide +kernel
theorem d5_29 : decode prog_14_method_11_code 29 = .ok (.ifCond .le 48, 3) := by decide +kernel
theorem d5_77 : decode prog_14_method_11_code 77 = .ok (.aload_n 0, 1) := by decide +kernel
theorem d5_78 : decode prog_14_method_11_code 78 = .ok (.getfield 28, 3) := by decide +kernel
theorem d5_81 : decode prog_14_method_11_code 81 = .ok (.aload_n 0, 1) := by decide +kernel
theorem d5_82 : decode prog_14_method_11_code 82 = .ok (.getfield 9, 3) := by decide +kernel
theorem d5_85 : decode prog_14_method_11_code 85 = .ok (.arraylength, 1) := by decide +kernel
theorem d5_86 : decode prog_14_method_11_code 86 = .ok (.if_icmp .ne 7, 3) := by decide +kernel
theorem d5_93 : decode prog_14_method_11_code 93 = .ok (.aload_n 0, 1) := by decide +kernel
theorem d5_94 : decode prog_14_method_11_code 94 = .ok (.getfield 32, 3) := by decide +kernel
theorem d5_97 : decode prog_14_method_11_code 97 = .ok (.aload_n 0, 1) := by decide +kernel
theorem d5_98 : decode prog_14_method_11_code 98 = .ok (.getfield 28, 3) := by decide +kernel
theorem d5_101 : decode prog_14_method_11_code 101 = .ok (.iadd, 1) := by decide +kernel
theorem d5_102 : decode prog_14_method_11_code 102 = .ok (.aload_n 0, 1) := by decide +kernel
theorem d5_103 : decode prog_14_method_11_code 103 = .ok (.getfield 9, 3) := by decide +kernel
theorem d5_106 : decode prog_14_method_11_code 106 = .ok (.arraylength, 1) := by decide +kernel
theorem d5_107 : decode prog_14_method_11_code 107 = .ok (.iconst 1, 1) := by decide +kernel
theorem d5_108 : decode prog_14_method_11_code 108 = .ok (.isub, 1) := by decide +kernel
theorem d5_109 : decode prog_14_method_11_code 109 = .ok (.iand, 1) := by decide +kernel
theorem d5_110 : decode prog_14_method_11_code 110 = .ok (.istore 8, 2) := by decide +kernel
theorem d5_112 : decode prog_14_method_11_code 112 = .ok (.aload_n 0, 1) := by decide +kernel
theorem d5_113 : decode prog_14_method_11_code 113 = .ok (.getfield 9, 3) := by decide +kernel
theorem d5_116 : decode prog_14_method_11_code 116 = .ok (.iload 8, 2) := by decide +kernel
theorem d5_118 : decode prog_14_method_11_code 118 = .ok (.iload_n 1, 1) := by decide +kernel
theorem d5_119 : decode prog_14_method_11_code 119 = .ok (.iastore, 1) := by decide +kernel
theorem d5_120 : decode prog_14_method_11_code 120 = .ok (.aload_n 0, 1) := by decide +kernel
theorem d5_121 : decode prog_14_method_11_code 121 = .ok (.getfield 13, 3) := by decide +kernel
theorem d5_124 : decode prog_14_method_11_code 124 = .ok (.iload 8, 2) := by decide +kernel
theorem d5_126 : decode prog_14_method_11_code 126 = .ok (.iload_n 2, 1) := by decide +kernel
theorem d5_127 : decode prog_14_method_11_code 127 = .ok (.iastore, 1) := by decide +kernel
theorem d5_128 : decode prog_14_method_11_code 128 = .ok (.aload_n 0, 1) := by decide +kernel
theorem d5_129 : decode prog_14_method_11_code 129 = .ok (.getfield 16, 3) := by decide +kernel
theorem d5_132 : decode prog_14_method_11_code 132 = .ok (.iload 8, 2) := by decide +kernel
theorem d5_134 : decode prog_14_method_11_code 134 = .ok (.dload_n 3, 1) := by decide +kernel
theorem d5_135 : decode prog_14_method_11_code 135 = .ok (.dastore, 1) := by decide +kernel
theorem d5_136 : decode prog_14_method_11_code 136 = .ok (.aload_n 0, 1) := by decide +kernel
theorem d5_137 : decode prog_14_method_11_code 137 = .ok (.getfield 20, 3) := by decide +kernel
theorem d5_140 : decode prog_14_method_11_code 140 = .ok (.iload 8, 2) := by decide +kernel
theorem d5_142 : decode prog_14_method_11_code 142 = .ok (.iload 5, 2) := by decide +kernel
theorem d5_144 : decode prog_14_method_11_code 144 = .ok (.bastore, 1) := by decide +kernel
theorem d5_145 : decode prog_14_method_11_code 145 = .ok (.aload_n 0, 1) := by decide +kernel
theorem d5_146 : decode prog_14_method_11_code 146 = .ok (.dup, 1) := by decide +kernel
theorem d5_147 : decode prog_14_method_11_code 147 = .ok (.getfield 28, 3) := by decide +kernel
theorem d5_150 : decode prog_14_method_11_code 150 = .ok (.iconst 1, 1) := by decide +kernel
theorem d5_151 : decode prog_14_method_11_code 151 = .ok (.iadd, 1) := by decide +kernel
theorem d5_152 : decode prog_14_method_11_code 152 = .ok (.putfield 28, 3) := by decide +kernel
theorem d5_155 : decode prog_14_method_11_code 155 = .ok (.aload_n 0, 1) := by decide +kernel
theorem d5_156 : decode prog_14_method_11_code 156 = .ok (.dup, 1) := by decide +kernel
theorem d5_157 : decode prog_14_method_11_code 157 = .ok (.getfield 24, 3) := by decide +kernel
theorem d5_160 : decode prog_14_method_11_code 160 = .ok (.dload_n 3, 1) := by decide +kernel
theorem d5_161 : decode prog_14_method_11_code 161 = .ok (.dadd, 1) := by decide +kernel
theorem d5_162 : decode prog_14_method_11_code 162 = .ok (.putfield 24, 3) := by decide +kernel
theorem d5_165 : decode prog_14_method_11_code 165 = .ok (.return_, 1) := by decide +kernel
theorem d5_32 : decode prog_14_method_11_code 32 = .ok (.aload_n 0, 1) := by decide +kernel
theorem d5_33 : decode prog_14_method_11_code 33 = .ok (.getfield 9, 3) := by decide +kernel
theorem d5_36 : decode prog_14_method_11_code 36 = .ok (.iload 7, 2) := by decide +kernel
theorem d5_38 : decode prog_14_method_11_code 38 = .ok (.iaload, 1) := by decide +kernel
theorem d5_39 : decode prog_14_method_11_code 39 = .ok (.iload_n 1, 1) := by decide +kernel
theorem d5_40 : decode prog_14_method_11_code 40 = .ok (.if_icmp .ne 37, 3) := by decide +kernel
theorem d6_0 : decode prog_14_method_12_code 0 = .ok (.dload_n 1, 1) := by decide +kernel
theorem d6_1 : decode prog_14_method_12_code 1 = .ok (.aload_n 0, 1) := by decide +kernel
theorem d6_2 : decode prog_14_method_12_code 2 = .ok (.getfield 16, 3) := by decide +kernel
theorem d6_5 : decode prog_14_method_12_code 5 = .ok (.aload_n 0, 1) := by decide +kernel
theorem d6_6 : decode prog_14_method_12_code 6 = .ok (.getfield 32, 3) := by decide +kernel
theorem d6_9 : decode prog_14_method_12_code 9 = .ok (.daload, 1) := by decide +kernel
theorem d6_10 : decode prog_14_method_12_code 10 = .ok (.dcmp .l, 1) := by decide +kernel
theorem d6_11 : decode prog_14_method_12_code 11 = .ok (.ifCond .lt 34, 3) := by decide +kernel
theorem d6_14 : decode prog_14_method_12_code 14 = .ok (.aload_n 0, 1) := by decide +kernel
theorem d6_15 : decode prog_14_method_12_code 15 = .ok (.aload_n 0, 1) := by decide +kernel
theorem d6_16 : decode prog_14_method_12_code 16 = .ok (.getfield 32, 3) := by decide +kernel
theorem d6_19 : decode prog_14_method_12_code 19 = .ok (.iconst 1, 1) := by decide +kernel
theorem d6_20 : decode prog_14_method_12_code 20 = .ok (.iadd, 1) := by decide +kernel
theorem d6_21 : decode prog_14_method_12_code 21 = .ok (.aload_n 0, 1) := by decide +kernel
theorem d6_22 : decode prog_14_method_12_code 22 = .ok (.getfield 9, 3) := by decide +kernel
theorem d6_25 : decode prog_14_method_12_code 25 = .ok (.arraylength, 1) := by decide +kernel
theorem d6_26 : decode prog_14_method_12_code 26 = .ok (.iconst 1, 1) := by decide +kernel
theorem d6_27 : decode prog_14_method_12_code 27 = .ok (.isub, 1) := by decide +kernel
theorem d6_28 : decode prog_14_method_12_code 28 = .ok (.iand, 1) := by decide +kernel
theorem d6_29 : decode prog_14_method_12_code 29 = .ok (.putfield 32, 3) := by decide +kernel
theorem d6_32 : decode prog_14_method_12_code 32 = .ok (.aload_n 0, 1) := by decide +kernel
theorem d6_33 : decode prog_14_method_12_code 33 = .ok (.dup, 1) := by decide +kernel
theorem d6_34 : decode prog_14_method_12_code 34 = .ok (.getfield 28, 3) := by decide +kernel
theorem d6_37 : decode prog_14_method_12_code 37 = .ok (.iconst 1, 1) := by decide +kernel
theorem d6_38 : decode prog_14_method_12_code 38 = .ok (.isub, 1) := by decide +kernel
theorem d6_39 : decode prog_14_method_12_code 39 = .ok (.putfield 28, 3) := by decide +kernel
theorem d6_42 : decode prog_14_method_12_code 42 = .ok (.goto 16, 3) := by decide +kernel
theorem d6_58 : decode prog_14_method_12_code 58 = .ok (.aload_n 0, 1) := by decide +kernel
theorem d6_59 : decode prog_14_method_12_code 59 = .ok (.aload_n 0, 1) := by decide +kernel
theorem d6_60 : decode prog_14_method_12_code 60 = .ok (.getfield 28, 3) := by decide +kernel
theorem d6_63 : decode prog_14_method_12_code 63 = .ok (.ifCond .ne 7, 3) := by decide +kernel
theorem d6_66 : decode prog_14_method_12_code 66 = .ok (.dconst 0, 1) := by decide +kernel
theorem d6_67 : decode prog_14_method_12_code 67 = .ok (.goto 9, 3) := by decide +kernel
theorem d6_76 : decode prog_14_method_12_code 76 = .ok (.putfield 24, 3) := by decide +kernel
theorem d6_79 : decode prog_14_method_12_code 79 = .ok (.return_, 1) := by decide +kernel
theorem d6_70 : decode prog_14_method_12_code 70 = .ok (.aload_n 0, 1) := by decide +kernel
theorem d6_71 : decode prog_14_method_12_code 71 = .ok (.getfield 24, 3) := by decide +kernel
theorem d6_74 : decode prog_14_method_12_code 74 = .ok (.dload_n 1, 1) := by decide +kernel
theorem d6_75 : decode prog_14_method_12_code 75 = .ok (.dsub, 1) := by decide +kernel
theorem d6_45 : decode prog_14_method_12_code 45 = .ok (.aload_n 0, 1) := by decide +kernel
theorem d6_46 : decode prog_14_method_12_code 46 = .ok (.getfield 16, 3) := by decide +kernel
theorem d6_49 : decode prog_14_method_12_code 49 = .ok (.aload_n 0, 1) := by decide +kernel
theorem d6_50 : decode prog_14_method_12_code 50 = .ok (.getfield 32, 3) := by decide +kernel
theorem d6_53 : decode prog_14_method_12_code 53 = .ok (.dup2, 1) := by decide +kernel
theorem d6_54 : decode prog_14_method_12_code 54 = .ok (.daload, 1) := by decide +kernel
theorem d6_55 : decode prog_14_method_12_code 55 = .ok (.dload_n 1, 1) := by decide +kernel
theorem d6_56 : decode prog_14_method_12_code 56 = .ok (.dsub, 1) := by decide +kernel
theorem d6_57 : decode prog_14_method_12_code 57 = .ok (.dastore, 1) := by decide +kernel
theorem d1_0 : decode jdk_29_method_69_code 0 = .ok (.iload_n 0, 1) := by decide +kernel
theorem d1_1 : decode jdk_29_method_69_code 1 = .ok (.iload_n 1, 1) := by decide +kernel
theorem d1_2 : decode jdk_29_method_69_code 2 = .ok (.if_icmp .gt 7, 3) := by decide +kernel
theorem d1_9 : decode jdk_29_method_69_code 9 = .ok (.iload_n 1, 1) := by decide +kernel
theorem d1_10 : decode jdk_29_method_69_code 10 = .ok (.ireturn, 1) := by decide +kernel
theorem d1_5 : decode jdk_29_method_69_code 5 = .ok (.iload_n 0, 1) := by decide +kernel
theorem d1_6 : decode jdk_29_method_69_code 6 = .ok (.goto 4, 3) := by decide +kernel
theorem d4_0 : decode prog_14_method_10_code 0 = .ok (.iconst 0, 1) := by decide +kernel
theorem d4_1 : decode prog_14_method_10_code 1 = .ok (.istore_n 1, 1) := by decide +kernel
theorem d4_2 : decode prog_14_method_10_code 2 = .ok (.iload_n 1, 1) := by decide +kernel
theorem d4_3 : decode prog_14_method_10_code 3 = .ok (.aload_n 0, 1) := by decide +kernel
theorem d4_4 : decode prog_14_method_10_code 4 = .ok (.getfield 28, 3) := by decide +kernel
theorem d4_7 : decode prog_14_method_10_code 7 = .ok (.if_icmp .ge 33, 3) := by decide +kernel
theorem d4_40 : decode prog_14_method_10_code 40 = .ok (.iconst 0, 1) := by decide +kernel
theorem d4_41 : decode prog_14_method_10_code 41 = .ok (.ireturn, 1) := by decide +kernel
theorem d4_10 : decode prog_14_method_10_code 10 = .ok (.aload_n 0, 1) := by decide +kernel
theorem d4_11 : decode prog_14_method_10_code 11 = .ok (.getfield 20, 3) := by decide +kernel
theorem d4_14 : decode prog_14_method_10_code 14 = .ok (.aload_n 0, 1) := by decide +kernel
theorem d4_15 : decode prog_14_method_10_code 15 = .ok (.getfield 32, 3) := by decide +kernel
theorem d4_18 : decode prog_14_method_10_code 18 = .ok (.iload_n 1, 1) := by decide +kernel
theorem d4_19 : decode prog_14_method_10_code 19 = .ok (.iadd, 1) := by decide +kernel
theorem d4_20 : decode prog_14_method_10_code 20 = .ok (.aload_n 0, 1) := by decide +kernel
theorem d4_21 : decode prog_14_method_10_code 21 = .ok (.getfield 20, 3) := by decide +kernel
theorem d4_24 : decode prog_14_method_10_code 24 = .ok (.arraylength, 1) := by decide +kernel
theorem d4_25 : decode prog_14_method_10_code 25 = .ok (.iconst 1, 1) := by decide +kernel
theorem d4_26 : decode prog_14_method_10_code 26 = .ok (.isub, 1) := by decide +kernel
theorem d4_27 : decode prog_14_method_10_code 27 = .ok (.iand, 1) := by decide +kernel
theorem d4_28 : decode prog_14_method_10_code 28 = .ok (.baload, 1) := by decide +kernel
theorem d4_29 : decode prog_14_method_10_code 29 = .ok (.ifCond .eq 5, 3) := by decide +kernel
theorem d4_34 : decode prog_14_method_10_code 34 = .ok (.iinc 1 1, 3) := by decide +kernel
theorem d4_37 : decode prog_14_method_10_code 37 = .ok (.goto (-35), 3) := by decide +kernel
theorem d4_32 : decode prog_14_method_10_code 32 = .ok (.iconst 1, 1) := by decide +kernel
theorem d4_33 : decode prog_14_method_10_code 33 = .ok (.ireturn, 1) := by decide +kernel
abbrev kS0 : String := "com/example/occupancy/occupancy/loading/Block"
def Qrm_2 (Z : State) (a1 : Addr) (u0 : Value) (u1 : Value) (u2 : Value) (u3 : Value) (u4 : Value) (u5 : Value) (u6 : Value) (h0 : Heap) (n0 : Nat) (v : Option Value) (h : Heap) (L : List Loc) : Prop := ∃ t0 : Addr, ∃ t1 : Addr, ∃ t2 : Addr, ∃ t3 : Addr, ∃ k0 : ClassId, ∃ k1 : ClassId, ∃ k2 : ClassId, ∃ k3 : ClassId, v = none ∧ Fr n0 L ∧ Keep h0 h [a1] ∧ Exa Z h a1 kS0 ∧ Fld Z h a1 kS0 "agents" "[I" (.ref t0) ∧ Arv Z h t0 k0 .int (8 : Int32) [(.int 0), (.int 0), (.int 0), (.int 0), (.int 0), (.int 0), (.int 0), (.int 0)] (.int 0) ∧ Fld Z h a1 kS0 "legs" "[I" (.ref t1) ∧ Arv Z h t1 k1 .int (8 : Int32) [(.int 0), (.int 0), (.int 0), (.int 0), (.int 0), (.int 0), (.int 0), (.int 0)] (.int 0) ∧ Fld Z h a1 kS0 "amounts" "[D" (.ref t2) ∧ Arv Z h t2 k2 .double (8 : Int32) [(.double (0 : UInt64)), (.double (0 : UInt64)), (.double (0 : UInt64)), (.double (0 : UInt64)), (.double (0 : UInt64)), (.double (0 : UInt64)), (.double (0 : UInt64)), (.double (0 : UInt64))] (.double (0 : UInt64)) ∧ Fld Z h a1 kS0 "rears" "[Z" (.ref t3) ∧ Arv Z h t3 k3 .boolean (8 : Int32) [(.int 0), (.int 0), (.int 0), (.int 0), (.int 0), (.int 0), (.int 0), (.int 0)] (.int 0) ∧ Fld Z h a1 kS0 "head" "I" u4 ∧ Fld Z h a1 kS0 "size" "I" u5 ∧ Fld Z h a1 kS0 "content" "D" u6 ∧ h0.size ≤ t0 ∧ LT.lt (α := Nat) t0 t1 ∧ LT.lt (α := Nat) t1 t2 ∧ LT.lt (α := Nat) t2 t3
theorem ef_rm_2 (m : MethodId) (x0 : Addr) : entryFrame m #[(.ref x0)] 1 = mkF m 0 #[.val (.ref x0)] [] := by first | rfl | (simp [entryFrame, mkF, argsToLocals, Value.category]; done)
set_option maxRecDepth 65536 in
set_option maxHeartbeats 40000000 in
theorem rm_2 (l : Launch) (Z : State) (a0 : Array Value) (hw : ∀ d ∈ tables_1, d.before a0 Z = true) (ws : List Jvm.Cond) (a1 : Addr) (u0 : Value) (u1 : Value) (u2 : Value) (u3 : Value) (u4 : Value) (u5 : Value) (u6 : Value) (h0 : Heap) (n0 : Nat) (Z0 : n0 ≤ h0.size) (E1 : Exa Z h0 a1 kS0) (F0 : Fld Z h0 a1 kS0 "agents" "[I" u0) (F1 : Fld Z h0 a1 kS0 "legs" "[I" u1) (F2 : Fld Z h0 a1 kS0 "amounts" "[D" u2) (F3 : Fld Z h0 a1 kS0 "rears" "[Z" u3) (F4 : Fld Z h0 a1 kS0 "head" "I" u4) (F5 : Fld Z h0 a1 kS0 "size" "I" u5) (F6 : Fld Z h0 a1 kS0 "content" "D" u6) (g1 : n0 ≤ a1) :
    MetFree l (⟨kS0, "<init>", "()V"⟩ : MethodName) (head1 (Jvm.Cond.code (⟨kS0, "<init>", "()V"⟩ : MethodName) prog_14_method_1_code 1 none :: ws) ({ frames := 1, cells := 4, slots := 32, locals := 12 } : Room)) (fun a U => a = #[(.ref a1)] ∧ Z.Warmed39 U.vm ∧ U.heap = h0) (fun _ _ _ _ _ => True) (fun _ U o U' => ∃ v L, o = .returned v ∧ Qrm_2 Z a1 u0 u1 u2 u3 u4 u5 u6 h0 n0 v U'.heap L ∧ FrameEnd U o U' L ({ frames := 1, cells := 4, slots := 32, locals := 12 } : Room).cells ({ frames := 1, cells := 4, slots := 32, locals := 12 } : Room).slots) := by
  refine MetFree.of_bodySF (plainFor_of_name pn_0) hisR ?_
  intro p e s m args below meth c s₁ Bd hml0 hP hK
  obtain ⟨rfl, hZ, hh⟩ := hP
  have hx := Bd.exec
  have hby := Bd.bytes
  have hml : c.maxLocals = 1 := hml0
  have hown : s.vm.findClass kS0 = some m.cls := findClass_of_methodNamed Bd.named
  have hnm := (name_of_methodNamed Bd.named Bd.method).1
  have X0 : Stand p l e ({ frames := 1, cells := 4, slots := 32, locals := 12 } : Room) s m #[(.ref a1)] below meth c s₁ [] 0 0 := Stand.of_body Bd
  have e0 : s₁.heap = h0 := by rw [← hh, Bd.state]; rfl
  have N0 := Fr.nil n0
  have pre0 : ∀ t, Steps p.tables e below (s₁.setTop (mkF m 0 #[.val (.ref a1)] [])) t → Steps p.tables e below (s₁.setTop (entryFrame m #[(.ref a1)] 1)) t := fun t k => castTop (ef_rm_2 m a1) k
  have lt_E1 := ltA E1.lt
  have lt_F0 := ltA F0.lt
  have lt_F1 := ltA F1.lt
  have lt_F2 := ltA F2.lt
  have lt_F3 := ltA F3.lt
  have lt_F4 := ltA F4.lt
  have lt_F5 := ltA F5.lt
  have lt_F6 := ltA F6.lt
  obtain ⟨T1, X1, e1, st1⟩ := initO X0 hx hZ hown (wd hw 11 rfl) (wd hw 12 rfl) (wd hw 13 rfl) e0 (g := (mkF m 1 #[.val (.ref a1)] [(.ref a1)])) rfl (by rw [hml]; rfl) rfl (hb hby d2_1) (by decide) (W := 0) (by show 2 * 0 + _ ≤ _; exact Nat.le_of_eq rfl) (by decide)
  obtain ⟨T2, h2, k2, X2, e2, E2, A2, st2⟩ := newP X1 hx hZ (wd hw 14 rfl) e1 (g := (mkF m 7 #[.val (.ref a1)] [(.int 8), (.ref a1)])) rfl (hb hby d2_7) rfl (by decide) (cap := 8) (by decide) (by decide) (by decide) (by decide)
  obtain ⟨b2, g2⟩ : ∃ z, z = h0.size := ⟨_, rfl⟩
  rw [← g2] at A2 st2
  have sz2 : h0.size ≤ h2.size := E2.1
  have lt2 := ltA A2.lt
  have V2 : Arv Z h2 b2 k2 .int (8 : Int32) [(.int 0), (.int 0), (.int 0), (.int 0), (.int 0), (.int 0), (.int 0), (.int 0)] (.int 0) := (Arv.new A2 (by decide)).pad (pad_rep [] (.int 0) 8)
  have f3 : Fld Z h2 a1 kS0 "agents" "[I" u0 := (F0.ext E2)
  have f4 : Exa Z h2 a1 kS0 := (E1.ext E2)
  obtain ⟨T5, h5, X5, e5, W5, st5⟩ := putF X2 hx hZ hown (host := "") (Or.inl (wd hw 15 rfl)) Via.refl e2 f3 f4 (Or.inl (wd hw 16 rfl)) (wd hw 6 rfl) (ty := (.array .int)) (by decide) rfl rfl (g := (mkF m 9 #[.val (.ref a1)] [(.ref b2), (.ref a1)])) rfl rfl (hb hby d2_9)
  have N5 := Fr.snoc X5 N0 (by omega : n0 ≤ a1)
  have sz5 : h2.size ≤ h5.size := Nat.le_of_eq W5.size.symm
  have f5 : Fld Z h5 a1 kS0 "agents" "[I" (.ref b2) := f3.same W5
  obtain ⟨T6, h6, k6, X6, e6, E6, A6, st6⟩ := newP X5 hx hZ (wd hw 14 rfl) e5 (g := (mkF m 15 #[.val (.ref a1)] [(.int 8), (.ref a1)])) rfl (hb hby d2_15) rfl (by decide) (cap := 8) (by decide) (by decide) (by decide) (by decide)
  obtain ⟨b6, g6⟩ : ∃ z, z = h5.size := ⟨_, rfl⟩
  rw [← g6] at A6 st6
  have sz6 : h5.size ≤ h6.size := E6.1
  have lt6 := ltA A6.lt
  have V6 : Arv Z h6 b6 k6 .int (8 : Int32) [(.int 0), (.int 0), (.int 0), (.int 0), (.int 0), (.int 0), (.int 0), (.int 0)] (.int 0) := (Arv.new A6 (by decide)).pad (pad_rep [] (.int 0) 8)
  have f7 : Fld Z h6 a1 kS0 "legs" "[I" u1 := (((F1.ext E2).other W5 (Or.inr (slot_ne (Or.inl (wd hw 18 rfl)) (Or.inl (wd hw 16 rfl)) (by decide) (t := (.array .int)) (t' := (.array .int)) (by decide) (by decide)))).ext E6)
  have f8 : Exa Z h6 a1 kS0 := ((f4.wr W5).ext E6)
  obtain ⟨T9, h9, X9, e9, W9, st9⟩ := putF X6 hx hZ hown (host := "") (Or.inl (wd hw 17 rfl)) Via.refl e6 f7 f8 (Or.inl (wd hw 18 rfl)) (wd hw 6 rfl) (ty := (.array .int)) (by decide) rfl rfl (g := (mkF m 17 #[.val (.ref a1)] [(.ref b6), (.ref a1)])) rfl rfl (hb hby d2_17)
  have N9 := Fr.snoc X9 N5 (by omega : n0 ≤ a1)
  have sz9 : h6.size ≤ h9.size := Nat.le_of_eq W9.size.symm
  have f9 : Fld Z h9 a1 kS0 "legs" "[I" (.ref b6) := f7.same W9
  obtain ⟨T10, h10, k10, X10, e10, E10, A10, st10⟩ := newP X9 hx hZ (wd hw 19 rfl) e9 (g := (mkF m 23 #[.val (.ref a1)] [(.int 8), (.ref a1)])) rfl (hb hby d2_23) rfl (by decide) (cap := 8) (by decide) (by decide) (by decide) (by decide)
  obtain ⟨b10, g10⟩ : ∃ z, z = h9.size := ⟨_, rfl⟩
  rw [← g10] at A10 st10
  have sz10 : h9.size ≤ h10.size := E10.1
  have lt10 := ltA A10.lt
  have V10 : Arv Z h10 b10 k10 .double (8 : Int32) [(.double (0 : UInt64)), (.double (0 : UInt64)), (.double (0 : UInt64)), (.double (0 : UInt64)), (.double (0 : UInt64)), (.double (0 : UInt64)), (.double (0 : UInt64)), (.double (0 : UInt64))] (.double (0 : UInt64)) := (Arv.new A10 (by decide)).pad (pad_rep [] (.double (0 : UInt64)) 8)
  have f11 : Fld Z h10 a1 kS0 "amounts" "[D" u2 := (((((F2.ext E2).other W5 (Or.inr (slot_ne (Or.inl (wd hw 21 rfl)) (Or.inl (wd hw 16 rfl)) (by decide) (t := (.array .double)) (t' := (.array .int)) (by decide) (by decide)))).ext E6).other W9 (Or.inr (slot_ne (Or.inl (wd hw 21 rfl)) (Or.inl (wd hw 18 rfl)) (by decide) (t := (.array .double)) (t' := (.array .int)) (by decide) (by decide)))).ext E10)
  have f12 : Exa Z h10 a1 kS0 := ((f8.wr W9).ext E10)
  obtain ⟨T13, h13, X13, e13, W13, st13⟩ := putF X10 hx hZ hown (host := "") (Or.inl (wd hw 20 rfl)) Via.refl e10 f11 f12 (Or.inl (wd hw 21 rfl)) (wd hw 6 rfl) (ty := (.array .double)) (by decide) rfl rfl (g := (mkF m 25 #[.val (.ref a1)] [(.ref b10), (.ref a1)])) rfl rfl (hb hby d2_25)
  have N13 := Fr.snoc X13 N9 (by omega : n0 ≤ a1)
  have sz13 : h10.size ≤ h13.size := Nat.le_of_eq W13.size.symm
  have f13 : Fld Z h13 a1 kS0 "amounts" "[D" (.ref b10) := f11.same W13
  obtain ⟨T14, h14, k14, X14, e14, E14, A14, st14⟩ := newP X13 hx hZ (wd hw 22 rfl) e13 (g := (mkF m 31 #[.val (.ref a1)] [(.int 8), (.ref a1)])) rfl (hb hby d2_31) rfl (by decide) (cap := 8) (by decide) (by decide) (by decide) (by decide)
  obtain ⟨b14, g14⟩ : ∃ z, z = h13.size := ⟨_, rfl⟩
  rw [← g14] at A14 st14
  have sz14 : h13.size ≤ h14.size := E14.1
  have lt14 := ltA A14.lt
  have V14 : Arv Z h14 b14 k14 .boolean (8 : Int32) [(.int 0), (.int 0), (.int 0), (.int 0), (.int 0), (.int 0), (.int 0), (.int 0)] (.int 0) := (Arv.new A14 (by decide)).pad (pad_rep [] (.int 0) 8)
  have f15 : Fld Z h14 a1 kS0 "rears" "[Z" u3 := (((((((F3.ext E2).other W5 (Or.inr (slot_ne (Or.inl (wd hw 24 rfl)) (Or.inl (wd hw 16 rfl)) (by decide) (t := (.array .boolean)) (t' := (.array .int)) (by decide) (by decide)))).ext E6).other W9 (Or.inr (slot_ne (Or.inl (wd hw 24 rfl)) (Or.inl (wd hw 18 rfl)) (by decide) (t := (.array .boolean)) (t' := (.array .int)) (by decide) (by decide)))).ext E10).other W13 (Or.inr (slot_ne (Or.inl (wd hw 24 rfl)) (Or.inl (wd hw 21 rfl)) (by decide) (t := (.array .boolean)) (t' := (.array .double)) (by decide) (by decide)))).ext E14)
  have f16 : Exa Z h14 a1 kS0 := ((f12.wr W13).ext E14)
  obtain ⟨T17, h17, X17, e17, W17, st17⟩ := putF X14 hx hZ hown (host := "") (Or.inl (wd hw 23 rfl)) Via.refl e14 f15 f16 (Or.inl (wd hw 24 rfl)) (wd hw 6 rfl) (ty := (.array .boolean)) (by decide) rfl rfl (g := (mkF m 33 #[.val (.ref a1)] [(.ref b14), (.ref a1)])) rfl rfl (hb hby d2_33)
  have N17 := Fr.snoc X17 N13 (by omega : n0 ≤ a1)
  have sz17 : h14.size ≤ h17.size := Nat.le_of_eq W17.size.symm
  have f17 : Fld Z h17 a1 kS0 "rears" "[Z" (.ref b14) := f15.same W17
  have f18 : Exa Z h17 a1 kS0 := (f16.wr W17)
  have f19 : Fld Z h17 a1 kS0 "agents" "[I" (.ref b2) := ((((((f5.ext E6).other W9 (Or.inr (slot_ne (Or.inl (wd hw 16 rfl)) (Or.inl (wd hw 18 rfl)) (by decide) (t := (.array .int)) (t' := (.array .int)) (by decide) (by decide)))).ext E10).other W13 (Or.inr (slot_ne (Or.inl (wd hw 16 rfl)) (Or.inl (wd hw 21 rfl)) (by decide) (t := (.array .int)) (t' := (.array .double)) (by decide) (by decide)))).ext E14).other W17 (Or.inr (slot_ne (Or.inl (wd hw 16 rfl)) (Or.inl (wd hw 24 rfl)) (by decide) (t := (.array .int)) (t' := (.array .boolean)) (by decide) (by decide))))
  have f20 : Arv Z h17 b2 k2 .int (8 : Int32) [(.int 0), (.int 0), (.int 0), (.int 0), (.int 0), (.int 0), (.int 0), (.int 0)] (.int 0) := (((((((V2.other W5 (neN (by omega))).ext E6).other W9 (neN (by omega))).ext E10).other W13 (neN (by omega))).ext E14).other W17 (neN (by omega)))
  have f21 : Fld Z h17 a1 kS0 "legs" "[I" (.ref b6) := ((((f9.ext E10).other W13 (Or.inr (slot_ne (Or.inl (wd hw 18 rfl)) (Or.inl (wd hw 21 rfl)) (by decide) (t := (.array .int)) (t' := (.array .double)) (by decide) (by decide)))).ext E14).other W17 (Or.inr (slot_ne (Or.inl (wd hw 18 rfl)) (Or.inl (wd hw 24 rfl)) (by decide) (t := (.array .int)) (t' := (.array .boolean)) (by decide) (by decide))))
  have f22 : Arv Z h17 b6 k6 .int (8 : Int32) [(.int 0), (.int 0), (.int 0), (.int 0), (.int 0), (.int 0), (.int 0), (.int 0)] (.int 0) := (((((V6.other W9 (neN (by omega))).ext E10).other W13 (neN (by omega))).ext E14).other W17 (neN (by omega)))
  have f23 : Fld Z h17 a1 kS0 "amounts" "[D" (.ref b10) := ((f13.ext E14).other W17 (Or.inr (slot_ne (Or.inl (wd hw 21 rfl)) (Or.inl (wd hw 24 rfl)) (by decide) (t := (.array .double)) (t' := (.array .boolean)) (by decide) (by decide))))
  have f24 : Arv Z h17 b10 k10 .double (8 : Int32) [(.double (0 : UInt64)), (.double (0 : UInt64)), (.double (0 : UInt64)), (.double (0 : UInt64)), (.double (0 : UInt64)), (.double (0 : UInt64)), (.double (0 : UInt64)), (.double (0 : UInt64))] (.double (0 : UInt64)) := (((V10.other W13 (neN (by omega))).ext E14).other W17 (neN (by omega)))
  have f25 : Arv Z h17 b14 k14 .boolean (8 : Int32) [(.int 0), (.int 0), (.int 0), (.int 0), (.int 0), (.int 0), (.int 0), (.int 0)] (.int 0) := (V14.other W17 (neN (by omega)))
  have f26 : Fld Z h17 a1 kS0 "head" "I" u4 := ((((((((F4.ext E2).other W5 (Or.inr (slot_ne (Or.inl (wd hw 38 rfl)) (Or.inl (wd hw 16 rfl)) (by decide) (t := .int) (t' := (.array .int)) (by decide) (by decide)))).ext E6).other W9 (Or.inr (slot_ne (Or.inl (wd hw 38 rfl)) (Or.inl (wd hw 18 rfl)) (by decide) (t := .int) (t' := (.array .int)) (by decide) (by decide)))).ext E10).other W13 (Or.inr (slot_ne (Or.inl (wd hw 38 rfl)) (Or.inl (wd hw 21 rfl)) (by decide) (t := .int) (t' := (.array .double)) (by decide) (by decide)))).ext E14).other W17 (Or.inr (slot_ne (Or.inl (wd hw 38 rfl)) (Or.inl (wd hw 24 rfl)) (by decide) (t := .int) (t' := (.array .boolean)) (by decide) (by decide))))
  have f27 : Fld Z h17 a1 kS0 "size" "I" u5 := ((((((((F5.ext E2).other W5 (Or.inr (slot_ne (Or.inl (wd hw 31 rfl)) (Or.inl (wd hw 16 rfl)) (by decide) (t := .int) (t' := (.array .int)) (by decide) (by decide)))).ext E6).other W9 (Or.inr (slot_ne (Or.inl (wd hw 31 rfl)) (Or.inl (wd hw 18 rfl)) (by decide) (t := .int) (t' := (.array .int)) (by decide) (by decide)))).ext E10).other W13 (Or.inr (slot_ne (Or.inl (wd hw 31 rfl)) (Or.inl (wd hw 21 rfl)) (by decide) (t := .int) (t' := (.array .double)) (by decide) (by decide)))).ext E14).other W17 (Or.inr (slot_ne (Or.inl (wd hw 31 rfl)) (Or.inl (wd hw 24 rfl)) (by decide) (t := .int) (t' := (.array .boolean)) (by decide) (by decide))))
  have f28 : Fld Z h17 a1 kS0 "content" "D" u6 := ((((((((F6.ext E2).other W5 (Or.inr (slot_ne (Or.inl (wd hw 40 rfl)) (Or.inl (wd hw 16 rfl)) (by decide) (t := .double) (t' := (.array .int)) (by decide) (by decide)))).ext E6).other W9 (Or.inr (slot_ne (Or.inl (wd hw 40 rfl)) (Or.inl (wd hw 18 rfl)) (by decide) (t := .double) (t' := (.array .int)) (by decide) (by decide)))).ext E10).other W13 (Or.inr (slot_ne (Or.inl (wd hw 40 rfl)) (Or.inl (wd hw 21 rfl)) (by decide) (t := .double) (t' := (.array .double)) (by decide) (by decide)))).ext E14).other W17 (Or.inr (slot_ne (Or.inl (wd hw 40 rfl)) (Or.inl (wd hw 24 rfl)) (by decide) (t := .double) (t' := (.array .boolean)) (by decide) (by decide))))
  obtain ⟨fs, hr, hrun, hended, hW, hsame⟩ := X17.leave (v := none) (fun _ => rfl)
  refine ⟨_, _, pre0 _ ?_, hrun, hended, _, _, rfl, ?_, ⟨_, rfl⟩, hW, hsame.mono (by decide) (by decide)⟩
  · show GO p e below s₁ (mkF m 0 #[.val (.ref a1)] []) _
    refine XS.aloadN X0.here hx rfl (hb hby d2_0) rfl rfl ?_
    show GO p e below s₁ (mkF m 1 #[.val (.ref a1)] [(.ref a1)]) _
    refine st1 _ ?_
    show GO p e below T1 (mkF m 4 #[.val (.ref a1)] []) _
    refine XS.aloadN X1.here hx rfl (hb hby d2_4) rfl rfl ?_
    show GO p e below T1 (mkF m 5 #[.val (.ref a1)] [(.ref a1)]) _
    refine XS.bipush X1.here hx rfl (hb hby d2_5) ?_
    show GO p e below T1 (mkF m 7 #[.val (.ref a1)] [(.int 8), (.ref a1)]) _
    refine st2 _ ?_
    show GO p e below T2 (mkF m 9 #[.val (.ref a1)] [(.ref b2), (.ref a1)]) _
    refine st5 _ ?_
    show GO p e below T5 (mkF m 12 #[.val (.ref a1)] []) _
    refine XS.aloadN X5.here hx rfl (hb hby d2_12) rfl rfl ?_
    show GO p e below T5 (mkF m 13 #[.val (.ref a1)] [(.ref a1)]) _
    refine XS.bipush X5.here hx rfl (hb hby d2_13) ?_
    show GO p e below T5 (mkF m 15 #[.val (.ref a1)] [(.int 8), (.ref a1)]) _
    refine st6 _ ?_
    show GO p e below T6 (mkF m 17 #[.val (.ref a1)] [(.ref b6), (.ref a1)]) _
    refine st9 _ ?_
    show GO p e below T9 (mkF m 20 #[.val (.ref a1)] []) _
    refine XS.aloadN X9.here hx rfl (hb hby d2_20) rfl rfl ?_
    show GO p e below T9 (mkF m 21 #[.val (.ref a1)] [(.ref a1)]) _
    refine XS.bipush X9.here hx rfl (hb hby d2_21) ?_
    show GO p e below T9 (mkF m 23 #[.val (.ref a1)] [(.int 8), (.ref a1)]) _
    refine st10 _ ?_
    show GO p e below T10 (mkF m 25 #[.val (.ref a1)] [(.ref b10), (.ref a1)]) _
    refine st13 _ ?_
    show GO p e below T13 (mkF m 28 #[.val (.ref a1)] []) _
    refine XS.aloadN X13.here hx rfl (hb hby d2_28) rfl rfl ?_
    show GO p e below T13 (mkF m 29 #[.val (.ref a1)] [(.ref a1)]) _
    refine XS.bipush X13.here hx rfl (hb hby d2_29) ?_
    show GO p e below T13 (mkF m 31 #[.val (.ref a1)] [(.int 8), (.ref a1)]) _
    refine st14 _ ?_
    show GO p e below T14 (mkF m 33 #[.val (.ref a1)] [(.ref b14), (.ref a1)]) _
    refine st17 _ ?_
    show GO p e below T17 (mkF m 36 #[.val (.ref a1)] []) _
    exact X17.returnOut hx Bd.returns (hb hby d2_36) hr
  · show Qrm_2 Z a1 u0 u1 u2 u3 u4 u5 u6 h0 n0 _ T17.heap _
    rw [e17]
    exact ⟨b2, b6, b10, b14, k2, k6, k10, k14, rfl, N17, (((((((((Keep.refl h0 [a1]).ext E2).wr W5 (Or.inl (List.mem_of_getElem? (i := 0) rfl))).ext E6).wr W9 (Or.inl (List.mem_of_getElem? (i := 0) rfl))).ext E10).wr W13 (Or.inl (List.mem_of_getElem? (i := 0) rfl))).ext E14).wr W17 (Or.inl (List.mem_of_getElem? (i := 0) rfl))), f18, f19, f20, f21, f22, f23, f24, f17, f25, f26, f27, f28, (by omega), (by omega), (by omega), (by omega)⟩
def Qrm_add0 (Z : State) (a1 : Addr) (p2 : Int32) (p3 : Int32) (d4 : UInt64) (p5 : Int32) (c1 : UInt64) (t0 : Addr) (k0 : ClassId) (vA : List Value) (t1 : Addr) (k1 : ClassId) (vL : List Value) (t2 : Addr) (k2 : ClassId) (vD : List Value) (t3 : Addr) (k3 : ClassId) (vR : List Value) (h0 : Heap) (n0 : Nat) (v : Option Value) (h : Heap) (L : List Loc) : Prop := v = none ∧ Fr n0 L ∧ Keep h0 h [a1, t0, t1, t2, t3] ∧ Exa Z h a1 kS0 ∧ Fld Z h a1 kS0 "head" "I" (.int 0) ∧ Fld Z h a1 kS0 "size" "I" (.int 1) ∧ Fld Z h a1 kS0 "content" "D" (.double (FP.dadd c1 d4)) ∧ Fld Z h a1 kS0 "agents" "[I" (.ref t0) ∧ Arv Z h t0 k0 .int (8 : Int32) (vA.set 0 (.int p2)) (.int 0) ∧ Fld Z h a1 kS0 "legs" "[I" (.ref t1) ∧ Arv Z h t1 k1 .int (8 : Int32) (vL.set 0 (.int p3)) (.int 0) ∧ Fld Z h a1 kS0 "amounts" "[D" (.ref t2) ∧ Arv Z h t2 k2 .double (8 : Int32) (vD.set 0 (.double d4)) (.double (0 : UInt64)) ∧ Fld Z h a1 kS0 "rears" "[Z" (.ref t3) ∧ Arv Z h t3 k3 .boolean (8 : Int32) (vR.set 0 (.int (nar .boolean p5))) (.int 0)
theorem ef_rm_add0 (m : MethodId) (x0 : Addr) (x1 : Int32) (x2 : Int32) (x3 : UInt64) (x4 : Int32) : entryFrame m #[(.ref x0), (.int x1), (.int x2), (.double x3), (.int x4)] 9 = mkF m 0 (la0 x0 x1 x2 x3 x4) [] := by first | rfl | (simp [entryFrame, mkF, argsToLocals, Value.category]; done)
set_option maxRecDepth 65536 in
set_option maxHeartbeats 40000000 in
theorem rm_add0 (l : Launch) (Z : State) (a0 : Array Value) (hw : ∀ d ∈ tables_1, d.before a0 Z = true) (ws : List Jvm.Cond) (a1 : Addr) (p2 : Int32) (p3 : Int32) (d4 : UInt64) (p5 : Int32) (c1 : UInt64) (t0 : Addr) (k0 : ClassId) (vA : List Value) (t1 : Addr) (k1 : ClassId) (vL : List Value) (t2 : Addr) (k2 : ClassId) (vD : List Value) (t3 : Addr) (k3 : ClassId) (vR : List Value) (h0 : Heap) (n0 : Nat) (Z0 : n0 ≤ h0.size) (E1 : Exa Z h0 a1 kS0) (Fh : Fld Z h0 a1 kS0 "head" "I" (.int 0)) (Fs : Fld Z h0 a1 kS0 "size" "I" (.int 0)) (Fc : Fld Z h0 a1 kS0 "content" "D" (.double c1)) (F0 : Fld Z h0 a1 kS0 "agents" "[I" (.ref t0)) (V0 : Arv Z h0 t0 k0 .int (8 : Int32) vA (.int 0)) (F1 : Fld Z h0 a1 kS0 "legs" "[I" (.ref t1)) (V1 : Arv Z h0 t1 k1 .int (8 : Int32) vL (.int 0)) (F2 : Fld Z h0 a1 kS0 "amounts" "[D" (.ref t2)) (V2 : Arv Z h0 t2 k2 .double (8 : Int32) vD (.double (0 : UInt64))) (F3 : Fld Z h0 a1 kS0 "rears" "[Z" (.ref t3)) (V3 : Arv Z h0 t3 k3 .boolean (8 : Int32) vR (.int 0)) (len0 : vA.length = 8) (len1 : vL.length = 8) (len2 : vD.length = 8) (len3 : vR.length = 8) (o1 : LT.lt (α := Nat) a1 t0) (o2 : LT.lt (α := Nat) t0 t1) (o3 : LT.lt (α := Nat) t1 t2) (o4 : LT.lt (α := Nat) t2 t3) (g1 : n0 ≤ a1) (hn : Jvm.Free.Fl.NoNaN64 (FP.dadd c1 d4)) :
    MetFree l (⟨kS0, "add", "(IIDZ)V"⟩ : MethodName) (head1 (Jvm.Cond.code (⟨kS0, "add", "(IIDZ)V"⟩ : MethodName) prog_14_method_11_code 9 none :: ws) ({ frames := 0, cells := 0, slots := 0, locals := 0 } : Room)) (fun a U => a = #[(.ref a1), (.int p2), (.int p3), (.double d4), (.int p5)] ∧ Z.Warmed39 U.vm ∧ U.heap = h0) (fun _ _ _ _ _ => True) (fun _ U o U' => ∃ v L, o = .returned v ∧ Qrm_add0 Z a1 p2 p3 d4 p5 c1 t0 k0 vA t1 k1 vL t2 k2 vD t3 k3 vR h0 n0 v U'.heap L ∧ FrameEnd U o U' L ({ frames := 0, cells := 0, slots := 0, locals := 0 } : Room).cells ({ frames := 0, cells := 0, slots := 0, locals := 0 } : Room).slots) := by
  refine MetFree.of_bodySF (plainFor_of_name pn_0) hisR ?_
  intro p e s m args below meth c s₁ Bd hml0 hP hK
  obtain ⟨rfl, hZ, hh⟩ := hP
  have hx := Bd.exec
  have hby := Bd.bytes
  have hml : c.maxLocals = 9 := hml0
  have hown : s.vm.findClass kS0 = some m.cls := findClass_of_methodNamed Bd.named
  have hnm := (name_of_methodNamed Bd.named Bd.method).1
  have X0 : Stand p l e ({ frames := 0, cells := 0, slots := 0, locals := 0 } : Room) s m #[(.ref a1), (.int p2), (.int p3), (.double d4), (.int p5)] below meth c s₁ [] 0 0 := Stand.of_body Bd
  have e0 : s₁.heap = h0 := by rw [← hh, Bd.state]; rfl
  have N0 := Fr.nil n0
  have pre0 : ∀ t, Steps p.tables e below (s₁.setTop (mkF m 0 (la0 a1 p2 p3 d4 p5) [])) t → Steps p.tables e below (s₁.setTop (entryFrame m #[(.ref a1), (.int p2), (.int p3), (.double d4), (.int p5)] 9)) t := fun t k => castTop (ef_rm_add0 m a1 p2 p3 d4 p5) k
  have lt_E1 := ltA E1.lt
  have lt_Fh := ltA Fh.lt
  have lt_Fs := ltA Fs.lt
  have lt_Fc := ltA Fc.lt
  have lt_F0 := ltA F0.lt
  have lt_V0 := ltA V0.lt
  have lt_F1 := ltA F1.lt
  have lt_V1 := ltA V1.lt
  have lt_F2 := ltA F2.lt
  have lt_V2 := ltA V2.lt
  have lt_F3 := ltA F3.lt
  have lt_V3 := ltA V3.lt
  obtain ⟨T29, X29, e29, st29⟩ := getF X0 hx hZ hown (host := "") (Or.inl (wd hw 15 rfl)) Via.refl e0 F0 (g := (mkF m 1 (la0 a1 p2 p3 d4 p5) [(.ref a1)])) rfl rfl (hb hby d5_1)
  obtain ⟨cl30, Ar30, -, S30, M30, -, -⟩ := id V0
  obtain ⟨T31, X31, e31, st31⟩ := getF X29 hx hZ hown (host := "") (Or.inl (wd hw 37 rfl)) Via.refl e29 Fh (g := (mkF m 10 (la1 a1 p2 p3 d4 p5 (7 : Int32)) [(.ref a1)])) rfl rfl (hb hby d5_10)
  obtain ⟨T32, X32, e32, st32⟩ := getF X31 hx hZ hown (host := "") (Or.inl (wd hw 30 rfl)) Via.refl e31 Fs (g := (mkF m 14 (la1 a1 p2 p3 d4 p5 (7 : Int32)) [(.ref a1), (.int 0)])) rfl rfl (hb hby d5_14)
  obtain ⟨T33, X33, e33, st33⟩ := getF X32 hx hZ hown (host := "") (Or.inl (wd hw 30 rfl)) Via.refl e32 Fs (g := (mkF m 26 (la2 a1 p2 p3 d4 p5 (7 : Int32) (7 : Int32)) [(.ref a1)])) rfl rfl (hb hby d5_26)
  obtain ⟨T34, X34, e34, st34⟩ := getF X33 hx hZ hown (host := "") (Or.inl (wd hw 30 rfl)) Via.refl e33 Fs (g := (mkF m 78 (la2 a1 p2 p3 d4 p5 (7 : Int32) (7 : Int32)) [(.ref a1)])) rfl rfl (hb hby d5_78)
  obtain ⟨T35, X35, e35, st35⟩ := getF X34 hx hZ hown (host := "") (Or.inl (wd hw 15 rfl)) Via.refl e34 F0 (g := (mkF m 82 (la2 a1 p2 p3 d4 p5 (7 : Int32) (7 : Int32)) [(.ref a1), (.int 0)])) rfl rfl (hb hby d5_82)
  obtain ⟨cl36, Ar36, -, S36, M36, -, -⟩ := id V0
  obtain ⟨T37, X37, e37, st37⟩ := getF X35 hx hZ hown (host := "") (Or.inl (wd hw 37 rfl)) Via.refl e35 Fh (g := (mkF m 94 (la2 a1 p2 p3 d4 p5 (7 : Int32) (7 : Int32)) [(.ref a1)])) rfl rfl (hb hby d5_94)
  obtain ⟨T38, X38, e38, st38⟩ := getF X37 hx hZ hown (host := "") (Or.inl (wd hw 30 rfl)) Via.refl e37 Fs (g := (mkF m 98 (la2 a1 p2 p3 d4 p5 (7 : Int32) (7 : Int32)) [(.ref a1), (.int 0)])) rfl rfl (hb hby d5_98)
  obtain ⟨T39, X39, e39, st39⟩ := getF X38 hx hZ hown (host := "") (Or.inl (wd hw 15 rfl)) Via.refl e38 F0 (g := (mkF m 103 (la2 a1 p2 p3 d4 p5 (7 : Int32) (7 : Int32)) [(.ref a1), (.int 0)])) rfl rfl (hb hby d5_103)
  obtain ⟨cl40, Ar40, -, S40, M40, -, -⟩ := id V0
  obtain ⟨T41, X41, e41, st41⟩ := getF X39 hx hZ hown (host := "") (Or.inl (wd hw 15 rfl)) Via.refl e39 F0 (g := (mkF m 113 (la3 a1 p2 p3 d4 p5 (7 : Int32) (7 : Int32) (0 : Int32)) [(.ref a1)])) rfl rfl (hb hby d5_113)
  obtain ⟨cl42, Ar42, q42, S42, M42, H42, G42⟩ := id V0
  have hin42 : ¬ ((0 : Int32) < 0 ∨ cl42.slots.size ≤ ((0 : Int32)).toNatClampNeg) := inb_of S42 ⟨by decide, by decide⟩
  obtain ⟨T43, h43, X43, e43, W43, st43⟩ := stI X41 hx hZ e41 Ar42 (j := (0 : Int32)) hin42 (g := (mkF m 119 (la3 a1 p2 p3 d4 p5 (7 : Int32) (7 : Int32) (0 : Int32)) [(.int p2), (.int 0), (.ref t0)])) rfl rfl (hb hby d5_119)
  have N43 := Fr.snoc X43 N0 (by omega : n0 ≤ t0)
  have sz43 : h0.size ≤ h43.size := Nat.le_of_eq W43.size.symm
  have V43 : Arv Z h43 t0 k0 .int (8 : Int32) (vA.set 0 (.int p2)) (.int 0) := Arv.set Ar42 q42 S42 M42 H42 G42 rfl W43 0 rfl (by omega)
  have f44 : Fld Z h43 a1 kS0 "legs" "[I" (.ref t1) := (F1.other W43 (Or.inl (neN (by omega))))
  obtain ⟨T45, X45, e45, st45⟩ := getF X43 hx hZ hown (host := "") (Or.inl (wd hw 17 rfl)) Via.refl e43 f44 (g := (mkF m 121 (la3 a1 p2 p3 d4 p5 (7 : Int32) (7 : Int32) (0 : Int32)) [(.ref a1)])) rfl rfl (hb hby d5_121)
  have f46 : Arv Z h43 t1 k1 .int (8 : Int32) vL (.int 0) := (V1.other W43 (neN (by omega)))
  obtain ⟨cl47, Ar47, q47, S47, M47, H47, G47⟩ := id f46
  have hin47 : ¬ ((0 : Int32) < 0 ∨ cl47.slots.size ≤ ((0 : Int32)).toNatClampNeg) := inb_of S47 ⟨by decide, by decide⟩
  obtain ⟨T48, h48, X48, e48, W48, st48⟩ := stI X45 hx hZ e45 Ar47 (j := (0 : Int32)) hin47 (g := (mkF m 127 (la3 a1 p2 p3 d4 p5 (7 : Int32) (7 : Int32) (0 : Int32)) [(.int p3), (.int 0), (.ref t1)])) rfl rfl (hb hby d5_127)
  have N48 := Fr.snoc X48 N43 (by omega : n0 ≤ t1)
  have sz48 : h43.size ≤ h48.size := Nat.le_of_eq W48.size.symm
  have V48 : Arv Z h48 t1 k1 .int (8 : Int32) (vL.set 0 (.int p3)) (.int 0) := Arv.set Ar47 q47 S47 M47 H47 G47 rfl W48 0 rfl (by omega)
  have f49 : Fld Z h48 a1 kS0 "amounts" "[D" (.ref t2) := ((F2.other W43 (Or.inl (neN (by omega)))).other W48 (Or.inl (neN (by omega))))
  obtain ⟨T50, X50, e50, st50⟩ := getF X48 hx hZ hown (host := "") (Or.inl (wd hw 20 rfl)) Via.refl e48 f49 (g := (mkF m 129 (la3 a1 p2 p3 d4 p5 (7 : Int32) (7 : Int32) (0 : Int32)) [(.ref a1)])) rfl rfl (hb hby d5_129)
  have f51 : Arv Z h48 t2 k2 .double (8 : Int32) vD (.double (0 : UInt64)) := ((V2.other W43 (neN (by omega))).other W48 (neN (by omega)))
  obtain ⟨cl52, Ar52, q52, S52, M52, H52, G52⟩ := id f51
  have hin52 : ¬ ((0 : Int32) < 0 ∨ cl52.slots.size ≤ ((0 : Int32)).toNatClampNeg) := inb_of S52 ⟨by decide, by decide⟩
  obtain ⟨T53, h53, X53, e53, W53, st53⟩ := stD X50 hx hZ e50 Ar52 (j := (0 : Int32)) hin52 (g := (mkF m 135 (la3 a1 p2 p3 d4 p5 (7 : Int32) (7 : Int32) (0 : Int32)) [(.double d4), (.int 0), (.ref t2)])) rfl rfl (hb hby d5_135)
  have N53 := Fr.snoc X53 N48 (by omega : n0 ≤ t2)
  have sz53 : h48.size ≤ h53.size := Nat.le_of_eq W53.size.symm
  have V53 : Arv Z h53 t2 k2 .double (8 : Int32) (vD.set 0 (.double d4)) (.double (0 : UInt64)) := Arv.set Ar52 q52 S52 M52 H52 G52 rfl W53 0 rfl (by omega)
  have f54 : Fld Z h53 a1 kS0 "rears" "[Z" (.ref t3) := (((F3.other W43 (Or.inl (neN (by omega)))).other W48 (Or.inl (neN (by omega)))).other W53 (Or.inl (neN (by omega))))
  obtain ⟨T55, X55, e55, st55⟩ := getF X53 hx hZ hown (host := "") (Or.inl (wd hw 23 rfl)) Via.refl e53 f54 (g := (mkF m 137 (la3 a1 p2 p3 d4 p5 (7 : Int32) (7 : Int32) (0 : Int32)) [(.ref a1)])) rfl rfl (hb hby d5_137)
  have f56 : Arv Z h53 t3 k3 .boolean (8 : Int32) vR (.int 0) := (((V3.other W43 (neN (by omega))).other W48 (neN (by omega))).other W53 (neN (by omega)))
  obtain ⟨cl57, Ar57, q57, S57, M57, H57, G57⟩ := id f56
  have hin57 : ¬ ((0 : Int32) < 0 ∨ cl57.slots.size ≤ ((0 : Int32)).toNatClampNeg) := inb_of S57 ⟨by decide, by decide⟩
  obtain ⟨T58, h58, X58, e58, W58, st58⟩ := stZ X55 hx hZ e55 Ar57 (j := (0 : Int32)) hin57 (g := (mkF m 144 (la3 a1 p2 p3 d4 p5 (7 : Int32) (7 : Int32) (0 : Int32)) [(.int p5), (.int 0), (.ref t3)])) rfl rfl (hb hby d5_144)
  have N58 := Fr.snoc X58 N53 (by omega : n0 ≤ t3)
  have sz58 : h53.size ≤ h58.size := Nat.le_of_eq W58.size.symm
  have V58 : Arv Z h58 t3 k3 .boolean (8 : Int32) (vR.set 0 (.int (nar .boolean p5))) (.int 0) := Arv.set Ar57 q57 S57 M57 H57 G57 (fits_nar_bool _) W58 0 rfl (by omega)
  have f59 : Fld Z h58 a1 kS0 "size" "I" (.int 0) := ((((Fs.other W43 (Or.inl (neN (by omega)))).other W48 (Or.inl (neN (by omega)))).other W53 (Or.inl (neN (by omega)))).other W58 (Or.inl (neN (by omega))))
  obtain ⟨T60, X60, e60, st60⟩ := getF X58 hx hZ hown (host := "") (Or.inl (wd hw 30 rfl)) Via.refl e58 f59 (g := (mkF m 147 (la3 a1 p2 p3 d4 p5 (7 : Int32) (7 : Int32) (0 : Int32)) [(.ref a1), (.ref a1)])) rfl rfl (hb hby d5_147)
  have f61 : Exa Z h58 a1 kS0 := ((((E1.wr W43).wr W48).wr W53).wr W58)
  obtain ⟨T62, h62, X62, e62, W62, st62⟩ := putF X60 hx hZ hown (host := "") (Or.inl (wd hw 30 rfl)) Via.refl e60 f59 f61 (Or.inl (wd hw 31 rfl)) (wd hw 6 rfl) (ty := .int) (by decide) rfl rfl (g := (mkF m 152 (la3 a1 p2 p3 d4 p5 (7 : Int32) (7 : Int32) (0 : Int32)) [(.int 1), (.ref a1)])) rfl rfl (hb hby d5_152)
  have N62 := Fr.snoc X62 N58 (by omega : n0 ≤ a1)
  have sz62 : h58.size ≤ h62.size := Nat.le_of_eq W62.size.symm
  have f62 : Fld Z h62 a1 kS0 "size" "I" (.int 1) := f59.same W62
  have f63 : Fld Z h62 a1 kS0 "content" "D" (.double c1) := (((((Fc.other W43 (Or.inl (neN (by omega)))).other W48 (Or.inl (neN (by omega)))).other W53 (Or.inl (neN (by omega)))).other W58 (Or.inl (neN (by omega)))).other W62 (Or.inr (slot_ne (Or.inl (wd hw 40 rfl)) (Or.inl (wd hw 31 rfl)) (by decide) (t := .double) (t' := .int) (by decide) (by decide))))
  obtain ⟨T64, X64, e64, st64⟩ := getF X62 hx hZ hown (host := "") (Or.inl (wd hw 39 rfl)) Via.refl e62 f63 (g := (mkF m 157 (la3 a1 p2 p3 d4 p5 (7 : Int32) (7 : Int32) (0 : Int32)) [(.ref a1), (.ref a1)])) rfl rfl (hb hby d5_157)
  have f65 : Exa Z h62 a1 kS0 := (f61.wr W62)
  obtain ⟨T66, h66, X66, e66, W66, st66⟩ := putF X64 hx hZ hown (host := "") (Or.inl (wd hw 39 rfl)) Via.refl e64 f63 f65 (Or.inl (wd hw 40 rfl)) (wd hw 6 rfl) (ty := .double) (by decide) rfl rfl (g := (mkF m 162 (la3 a1 p2 p3 d4 p5 (7 : Int32) (7 : Int32) (0 : Int32)) [(.double (FP.dadd c1 d4)), (.ref a1)])) rfl rfl (hb hby d5_162)
  have N66 := Fr.snoc X66 N62 (by omega : n0 ≤ a1)
  have sz66 : h62.size ≤ h66.size := Nat.le_of_eq W66.size.symm
  have f66 : Fld Z h66 a1 kS0 "content" "D" (.double (FP.dadd c1 d4)) := f63.same W66
  have f67 : Exa Z h66 a1 kS0 := (f65.wr W66)
  have f68 : Fld Z h66 a1 kS0 "head" "I" (.int 0) := ((((((Fh.other W43 (Or.inl (neN (by omega)))).other W48 (Or.inl (neN (by omega)))).other W53 (Or.inl (neN (by omega)))).other W58 (Or.inl (neN (by omega)))).other W62 (Or.inr (slot_ne (Or.inl (wd hw 38 rfl)) (Or.inl (wd hw 31 rfl)) (by decide) (t := .int) (t' := .int) (by decide) (by decide)))).other W66 (Or.inr (slot_ne (Or.inl (wd hw 38 rfl)) (Or.inl (wd hw 40 rfl)) (by decide) (t := .int) (t' := .double) (by decide) (by decide))))
  have f69 : Fld Z h66 a1 kS0 "size" "I" (.int 1) := (f62.other W66 (Or.inr (slot_ne (Or.inl (wd hw 31 rfl)) (Or.inl (wd hw 40 rfl)) (by decide) (t := .int) (t' := .double) (by decide) (by decide))))
  have f70 : Fld Z h66 a1 kS0 "agents" "[I" (.ref t0) := ((((((F0.other W43 (Or.inl (neN (by omega)))).other W48 (Or.inl (neN (by omega)))).other W53 (Or.inl (neN (by omega)))).other W58 (Or.inl (neN (by omega)))).other W62 (Or.inr (slot_ne (Or.inl (wd hw 16 rfl)) (Or.inl (wd hw 31 rfl)) (by decide) (t := (.array .int)) (t' := .int) (by decide) (by decide)))).other W66 (Or.inr (slot_ne (Or.inl (wd hw 16 rfl)) (Or.inl (wd hw 40 rfl)) (by decide) (t := (.array .int)) (t' := .double) (by decide) (by decide))))
  have f71 : Arv Z h66 t0 k0 .int (8 : Int32) (vA.set 0 (.int p2)) (.int 0) := (((((V43.other W48 (neN (by omega))).other W53 (neN (by omega))).other W58 (neN (by omega))).other W62 (neN (by omega))).other W66 (neN (by omega)))
  have f72 : Fld Z h66 a1 kS0 "legs" "[I" (.ref t1) := (((((f44.other W48 (Or.inl (neN (by omega)))).other W53 (Or.inl (neN (by omega)))).other W58 (Or.inl (neN (by omega)))).other W62 (Or.inr (slot_ne (Or.inl (wd hw 18 rfl)) (Or.inl (wd hw 31 rfl)) (by decide) (t := (.array .int)) (t' := .int) (by decide) (by decide)))).other W66 (Or.inr (slot_ne (Or.inl (wd hw 18 rfl)) (Or.inl (wd hw 40 rfl)) (by decide) (t := (.array .int)) (t' := .double) (by decide) (by decide))))
  have f73 : Arv Z h66 t1 k1 .int (8 : Int32) (vL.set 0 (.int p3)) (.int 0) := ((((V48.other W53 (neN (by omega))).other W58 (neN (by omega))).other W62 (neN (by omega))).other W66 (neN (by omega)))
  have f74 : Fld Z h66 a1 kS0 "amounts" "[D" (.ref t2) := ((((f49.other W53 (Or.inl (neN (by omega)))).other W58 (Or.inl (neN (by omega)))).other W62 (Or.inr (slot_ne (Or.inl (wd hw 21 rfl)) (Or.inl (wd hw 31 rfl)) (by decide) (t := (.array .double)) (t' := .int) (by decide) (by decide)))).other W66 (Or.inr (slot_ne (Or.inl (wd hw 21 rfl)) (Or.inl (wd hw 40 rfl)) (by decide) (t := (.array .double)) (t' := .double) (by decide) (by decide))))
  have f75 : Arv Z h66 t2 k2 .double (8 : Int32) (vD.set 0 (.double d4)) (.double (0 : UInt64)) := (((V53.other W58 (neN (by omega))).other W62 (neN (by omega))).other W66 (neN (by omega)))
  have f76 : Fld Z h66 a1 kS0 "rears" "[Z" (.ref t3) := (((f54.other W58 (Or.inl (neN (by omega)))).other W62 (Or.inr (slot_ne (Or.inl (wd hw 24 rfl)) (Or.inl (wd hw 31 rfl)) (by decide) (t := (.array .boolean)) (t' := .int) (by decide) (by decide)))).other W66 (Or.inr (slot_ne (Or.inl (wd hw 24 rfl)) (Or.inl (wd hw 40 rfl)) (by decide) (t := (.array .boolean)) (t' := .double) (by decide) (by decide))))
  have f77 : Arv Z h66 t3 k3 .boolean (8 : Int32) (vR.set 0 (.int (nar .boolean p5))) (.int 0) := ((V58.other W62 (neN (by omega))).other W66 (neN (by omega)))
  obtain ⟨fs, hr, hrun, hended, hW, hsame⟩ := X66.leave (v := none) (fun _ => rfl)
  refine ⟨_, _, pre0 _ ?_, hrun, hended, _, _, rfl, ?_, ⟨_, rfl⟩, hW, hsame.mono (by decide) (by decide)⟩
  · show GO p e below s₁ (mkF m 0 (la0 a1 p2 p3 d4 p5) []) _
    refine XS.aloadN X0.here hx rfl (hb hby d5_0) rfl rfl ?_
    show GO p e below s₁ (mkF m 1 (la0 a1 p2 p3 d4 p5) [(.ref a1)]) _
    refine st29 _ ?_
    show GO p e below T29 (mkF m 4 (la0 a1 p2 p3 d4 p5) [(.ref t0)]) _
    refine X29.arraylength hx (by rw [e29]; exact Ar30.1) (State.isArrayOf_alike hZ.alike Ar30.2.1) (g := (mkF m 4 (la0 a1 p2 p3 d4 p5) [(.ref t0)])) rfl rfl (hb hby d5_4) _ ?_
    rw [len_of S30 M30]
    show GO p e below T29 (mkF m 5 (la0 a1 p2 p3 d4 p5) [(.int 8)]) _
    refine XS.iconst X29.here hx rfl (hb hby d5_5) ?_
    show GO p e below T29 (mkF m 6 (la0 a1 p2 p3 d4 p5) [(.int 1), (.int 8)]) _
    refine XS.isub X29.here hx rfl (hb hby d5_6) rfl ?_
    rw [show ((8 : Int32) - (1 : Int32)) = (7 : Int32) from by decide]
    show GO p e below T29 (mkF m 7 (la0 a1 p2 p3 d4 p5) [(.int 7)]) _
    refine XS.istore X29.here hx rfl (hb hby d5_7) rfl (l' := (la1 a1 p2 p3 d4 p5 (7 : Int32))) rfl ?_
    show GO p e below T29 (mkF m 9 (la1 a1 p2 p3 d4 p5 (7 : Int32)) []) _
    refine XS.aloadN X29.here hx rfl (hb hby d5_9) rfl rfl ?_
    show GO p e below T29 (mkF m 10 (la1 a1 p2 p3 d4 p5 (7 : Int32)) [(.ref a1)]) _
    refine st31 _ ?_
    show GO p e below T31 (mkF m 13 (la1 a1 p2 p3 d4 p5 (7 : Int32)) [(.int 0)]) _
    refine XS.aloadN X31.here hx rfl (hb hby d5_13) rfl rfl ?_
    show GO p e below T31 (mkF m 14 (la1 a1 p2 p3 d4 p5 (7 : Int32)) [(.ref a1), (.int 0)]) _
    refine st32 _ ?_
    show GO p e below T32 (mkF m 17 (la1 a1 p2 p3 d4 p5 (7 : Int32)) [(.int 0), (.int 0)]) _
    refine XS.iadd X32.here hx rfl (hb hby d5_17) rfl ?_
    rw [show ((0 : Int32) + (0 : Int32)) = (0 : Int32) from by decide]
    show GO p e below T32 (mkF m 18 (la1 a1 p2 p3 d4 p5 (7 : Int32)) [(.int 0)]) _
    refine XS.iconst X32.here hx rfl (hb hby d5_18) ?_
    show GO p e below T32 (mkF m 19 (la1 a1 p2 p3 d4 p5 (7 : Int32)) [(.int 1), (.int 0)]) _
    refine XS.isub X32.here hx rfl (hb hby d5_19) rfl ?_
    rw [show ((0 : Int32) - (1 : Int32)) = (-1 : Int32) from by decide]
    show GO p e below T32 (mkF m 20 (la1 a1 p2 p3 d4 p5 (7 : Int32)) [(.int (-1))]) _
    refine XS.iload X32.here hx rfl (hb hby d5_20) rfl ?_
    show GO p e below T32 (mkF m 22 (la1 a1 p2 p3 d4 p5 (7 : Int32)) [(.int 7), (.int (-1))]) _
    refine XS.iand X32.here hx rfl (hb hby d5_22) rfl ?_
    rw [show ((-1 : Int32) &&& (7 : Int32)) = (7 : Int32) from by decide]
    show GO p e below T32 (mkF m 23 (la1 a1 p2 p3 d4 p5 (7 : Int32)) [(.int 7)]) _
    refine XS.istore X32.here hx rfl (hb hby d5_23) rfl (l' := (la2 a1 p2 p3 d4 p5 (7 : Int32) (7 : Int32))) rfl ?_
    show GO p e below T32 (mkF m 25 (la2 a1 p2 p3 d4 p5 (7 : Int32) (7 : Int32)) []) _
    refine XS.aloadN X32.here hx rfl (hb hby d5_25) rfl rfl ?_
    show GO p e below T32 (mkF m 26 (la2 a1 p2 p3 d4 p5 (7 : Int32) (7 : Int32)) [(.ref a1)]) _
    refine st33 _ ?_
    show GO p e below T33 (mkF m 29 (la2 a1 p2 p3 d4 p5 (7 : Int32) (7 : Int32)) [(.int 0)]) _
    refine XS.ifYes X33.here hx rfl (pc0 := 29) (pc' := 77) rfl (hb hby d5_29) rfl ((if0 _ _).trans (flt ((by decide) : ¬ ((0 : Int32) < (0 : Int32)))).2.2.2) (by decide) (by decide) ?_
    show GO p e below T33 (mkF m 77 (la2 a1 p2 p3 d4 p5 (7 : Int32) (7 : Int32)) []) _
    refine XS.aloadN X33.here hx rfl (hb hby d5_77) rfl rfl ?_
    show GO p e below T33 (mkF m 78 (la2 a1 p2 p3 d4 p5 (7 : Int32) (7 : Int32)) [(.ref a1)]) _
    refine st34 _ ?_
    show GO p e below T34 (mkF m 81 (la2 a1 p2 p3 d4 p5 (7 : Int32) (7 : Int32)) [(.int 0)]) _
    refine XS.aloadN X34.here hx rfl (hb hby d5_81) rfl rfl ?_
    show GO p e below T34 (mkF m 82 (la2 a1 p2 p3 d4 p5 (7 : Int32) (7 : Int32)) [(.ref a1), (.int 0)]) _
    refine st35 _ ?_
    show GO p e below T35 (mkF m 85 (la2 a1 p2 p3 d4 p5 (7 : Int32) (7 : Int32)) [(.ref t0), (.int 0)]) _
    refine X35.arraylength hx (by rw [e35]; exact Ar36.1) (State.isArrayOf_alike hZ.alike Ar36.2.1) (g := (mkF m 85 (la2 a1 p2 p3 d4 p5 (7 : Int32) (7 : Int32)) [(.ref t0), (.int 0)])) rfl rfl (hb hby d5_85) _ ?_
    rw [len_of S36 M36]
    show GO p e below T35 (mkF m 86 (la2 a1 p2 p3 d4 p5 (7 : Int32) (7 : Int32)) [(.int 8), (.int 0)]) _
    refine XS.icmpYes X35.here hx rfl (pc0 := 86) (pc' := 93) rfl (hb hby d5_86) rfl (feq ((by decide) : ¬ ((0 : Int32) = (8 : Int32)))).2 (by decide) (by decide) ?_
    show GO p e below T35 (mkF m 93 (la2 a1 p2 p3 d4 p5 (7 : Int32) (7 : Int32)) []) _
    refine XS.aloadN X35.here hx rfl (hb hby d5_93) rfl rfl ?_
    show GO p e below T35 (mkF m 94 (la2 a1 p2 p3 d4 p5 (7 : Int32) (7 : Int32)) [(.ref a1)]) _
    refine st37 _ ?_
    show GO p e below T37 (mkF m 97 (la2 a1 p2 p3 d4 p5 (7 : Int32) (7 : Int32)) [(.int 0)]) _
    refine XS.aloadN X37.here hx rfl (hb hby d5_97) rfl rfl ?_
    show GO p e below T37 (mkF m 98 (la2 a1 p2 p3 d4 p5 (7 : Int32) (7 : Int32)) [(.ref a1), (.int 0)]) _
    refine st38 _ ?_
    show GO p e below T38 (mkF m 101 (la2 a1 p2 p3 d4 p5 (7 : Int32) (7 : Int32)) [(.int 0), (.int 0)]) _
    refine XS.iadd X38.here hx rfl (hb hby d5_101) rfl ?_
    rw [show ((0 : Int32) + (0 : Int32)) = (0 : Int32) from by decide]
    show GO p e below T38 (mkF m 102 (la2 a1 p2 p3 d4 p5 (7 : Int32) (7 : Int32)) [(.int 0)]) _
    refine XS.aloadN X38.here hx rfl (hb hby d5_102) rfl rfl ?_
    show GO p e below T38 (mkF m 103 (la2 a1 p2 p3 d4 p5 (7 : Int32) (7 : Int32)) [(.ref a1), (.int 0)]) _
    refine st39 _ ?_
    show GO p e below T39 (mkF m 106 (la2 a1 p2 p3 d4 p5 (7 : Int32) (7 : Int32)) [(.ref t0), (.int 0)]) _
    refine X39.arraylength hx (by rw [e39]; exact Ar40.1) (State.isArrayOf_alike hZ.alike Ar40.2.1) (g := (mkF m 106 (la2 a1 p2 p3 d4 p5 (7 : Int32) (7 : Int32)) [(.ref t0), (.int 0)])) rfl rfl (hb hby d5_106) _ ?_
    rw [len_of S40 M40]
    show GO p e below T39 (mkF m 107 (la2 a1 p2 p3 d4 p5 (7 : Int32) (7 : Int32)) [(.int 8), (.int 0)]) _
    refine XS.iconst X39.here hx rfl (hb hby d5_107) ?_
    show GO p e below T39 (mkF m 108 (la2 a1 p2 p3 d4 p5 (7 : Int32) (7 : Int32)) [(.int 1), (.int 8), (.int 0)]) _
    refine XS.isub X39.here hx rfl (hb hby d5_108) rfl ?_
    rw [show ((8 : Int32) - (1 : Int32)) = (7 : Int32) from by decide]
    show GO p e below T39 (mkF m 109 (la2 a1 p2 p3 d4 p5 (7 : Int32) (7 : Int32)) [(.int 7), (.int 0)]) _
    refine XS.iand X39.here hx rfl (hb hby d5_109) rfl ?_
    rw [show ((0 : Int32) &&& (7 : Int32)) = (0 : Int32) from by decide]
    show GO p e below T39 (mkF m 110 (la2 a1 p2 p3 d4 p5 (7 : Int32) (7 : Int32)) [(.int 0)]) _
    refine XS.istore X39.here hx rfl (hb hby d5_110) rfl (l' := (la3 a1 p2 p3 d4 p5 (7 : Int32) (7 : Int32) (0 : Int32))) rfl ?_
    show GO p e below T39 (mkF m 112 (la3 a1 p2 p3 d4 p5 (7 : Int32) (7 : Int32) (0 : Int32)) []) _
    refine XS.aloadN X39.here hx rfl (hb hby d5_112) rfl rfl ?_
    show GO p e below T39 (mkF m 113 (la3 a1 p2 p3 d4 p5 (7 : Int32) (7 : Int32) (0 : Int32)) [(.ref a1)]) _
    refine st41 _ ?_
    show GO p e below T41 (mkF m 116 (la3 a1 p2 p3 d4 p5 (7 : Int32) (7 : Int32) (0 : Int32)) [(.ref t0)]) _
    refine XS.iload X41.here hx rfl (hb hby d5_116) rfl ?_
    show GO p e below T41 (mkF m 118 (la3 a1 p2 p3 d4 p5 (7 : Int32) (7 : Int32) (0 : Int32)) [(.int 0), (.ref t0)]) _
    refine XS.iloadN X41.here hx rfl (hb hby d5_118) rfl ?_
    show GO p e below T41 (mkF m 119 (la3 a1 p2 p3 d4 p5 (7 : Int32) (7 : Int32) (0 : Int32)) [(.int p2), (.int 0), (.ref t0)]) _
    refine st43 _ ?_
    show GO p e below T43 (mkF m 120 (la3 a1 p2 p3 d4 p5 (7 : Int32) (7 : Int32) (0 : Int32)) []) _
    refine XS.aloadN X43.here hx rfl (hb hby d5_120) rfl rfl ?_
    show GO p e below T43 (mkF m 121 (la3 a1 p2 p3 d4 p5 (7 : Int32) (7 : Int32) (0 : Int32)) [(.ref a1)]) _
    refine st45 _ ?_
    show GO p e below T45 (mkF m 124 (la3 a1 p2 p3 d4 p5 (7 : Int32) (7 : Int32) (0 : Int32)) [(.ref t1)]) _
    refine XS.iload X45.here hx rfl (hb hby d5_124) rfl ?_
    show GO p e below T45 (mkF m 126 (la3 a1 p2 p3 d4 p5 (7 : Int32) (7 : Int32) (0 : Int32)) [(.int 0), (.ref t1)]) _
    refine XS.iloadN X45.here hx rfl (hb hby d5_126) rfl ?_
    show GO p e below T45 (mkF m 127 (la3 a1 p2 p3 d4 p5 (7 : Int32) (7 : Int32) (0 : Int32)) [(.int p3), (.int 0), (.ref t1)]) _
    refine st48 _ ?_
    show GO p e below T48 (mkF m 128 (la3 a1 p2 p3 d4 p5 (7 : Int32) (7 : Int32) (0 : Int32)) []) _
    refine XS.aloadN X48.here hx rfl (hb hby d5_128) rfl rfl ?_
    show GO p e below T48 (mkF m 129 (la3 a1 p2 p3 d4 p5 (7 : Int32) (7 : Int32) (0 : Int32)) [(.ref a1)]) _
    refine st50 _ ?_
    show GO p e below T50 (mkF m 132 (la3 a1 p2 p3 d4 p5 (7 : Int32) (7 : Int32) (0 : Int32)) [(.ref t2)]) _
    refine XS.iload X50.here hx rfl (hb hby d5_132) rfl ?_
    show GO p e below T50 (mkF m 134 (la3 a1 p2 p3 d4 p5 (7 : Int32) (7 : Int32) (0 : Int32)) [(.int 0), (.ref t2)]) _
    refine XS.dloadN X50.here hx rfl (hb hby d5_134) rfl ?_
    show GO p e below T50 (mkF m 135 (la3 a1 p2 p3 d4 p5 (7 : Int32) (7 : Int32) (0 : Int32)) [(.double d4), (.int 0), (.ref t2)]) _
    refine st53 _ ?_
    show GO p e below T53 (mkF m 136 (la3 a1 p2 p3 d4 p5 (7 : Int32) (7 : Int32) (0 : Int32)) []) _
    refine XS.aloadN X53.here hx rfl (hb hby d5_136) rfl rfl ?_
    show GO p e below T53 (mkF m 137 (la3 a1 p2 p3 d4 p5 (7 : Int32) (7 : Int32) (0 : Int32)) [(.ref a1)]) _
    refine st55 _ ?_
    show GO p e below T55 (mkF m 140 (la3 a1 p2 p3 d4 p5 (7 : Int32) (7 : Int32) (0 : Int32)) [(.ref t3)]) _
    refine XS.iload X55.here hx rfl (hb hby d5_140) rfl ?_
    show GO p e below T55 (mkF m 142 (la3 a1 p2 p3 d4 p5 (7 : Int32) (7 : Int32) (0 : Int32)) [(.int 0), (.ref t3)]) _
    refine XS.iload X55.here hx rfl (hb hby d5_142) rfl ?_
    show GO p e below T55 (mkF m 144 (la3 a1 p2 p3 d4 p5 (7 : Int32) (7 : Int32) (0 : Int32)) [(.int p5), (.int 0), (.ref t3)]) _
    refine st58 _ ?_
    show GO p e below T58 (mkF m 145 (la3 a1 p2 p3 d4 p5 (7 : Int32) (7 : Int32) (0 : Int32)) []) _
    refine XS.aloadN X58.here hx rfl (hb hby d5_145) rfl rfl ?_
    show GO p e below T58 (mkF m 146 (la3 a1 p2 p3 d4 p5 (7 : Int32) (7 : Int32) (0 : Int32)) [(.ref a1)]) _
    refine XS.dup X58.here hx rfl (hb hby d5_146) rfl rfl ?_
    show GO p e below T58 (mkF m 147 (la3 a1 p2 p3 d4 p5 (7 : Int32) (7 : Int32) (0 : Int32)) [(.ref a1), (.ref a1)]) _
    refine st60 _ ?_
    show GO p e below T60 (mkF m 150 (la3 a1 p2 p3 d4 p5 (7 : Int32) (7 : Int32) (0 : Int32)) [(.int 0), (.ref a1)]) _
    refine XS.iconst X60.here hx rfl (hb hby d5_150) ?_
    show GO p e below T60 (mkF m 151 (la3 a1 p2 p3 d4 p5 (7 : Int32) (7 : Int32) (0 : Int32)) [(.int 1), (.int 0), (.ref a1)]) _
    refine XS.iadd X60.here hx rfl (hb hby d5_151) rfl ?_
    rw [show ((0 : Int32) + (1 : Int32)) = (1 : Int32) from by decide]
    show GO p e below T60 (mkF m 152 (la3 a1 p2 p3 d4 p5 (7 : Int32) (7 : Int32) (0 : Int32)) [(.int 1), (.ref a1)]) _
    refine st62 _ ?_
    show GO p e below T62 (mkF m 155 (la3 a1 p2 p3 d4 p5 (7 : Int32) (7 : Int32) (0 : Int32)) []) _
    refine XS.aloadN X62.here hx rfl (hb hby d5_155) rfl rfl ?_
    show GO p e below T62 (mkF m 156 (la3 a1 p2 p3 d4 p5 (7 : Int32) (7 : Int32) (0 : Int32)) [(.ref a1)]) _
    refine XS.dup X62.here hx rfl (hb hby d5_156) rfl rfl ?_
    show GO p e below T62 (mkF m 157 (la3 a1 p2 p3 d4 p5 (7 : Int32) (7 : Int32) (0 : Int32)) [(.ref a1), (.ref a1)]) _
    refine st64 _ ?_
    show GO p e below T64 (mkF m 160 (la3 a1 p2 p3 d4 p5 (7 : Int32) (7 : Int32) (0 : Int32)) [(.double c1), (.ref a1)]) _
    refine XS.dloadN X64.here hx rfl (hb hby d5_160) rfl ?_
    show GO p e below T64 (mkF m 161 (la3 a1 p2 p3 d4 p5 (7 : Int32) (7 : Int32) (0 : Int32)) [(.double d4), (.double c1), (.ref a1)]) _
    refine XS.daddS X64.here hx rfl (hb hby d5_161) rfl hn rfl ?_
    show GO p e below T64 (mkF m 162 (la3 a1 p2 p3 d4 p5 (7 : Int32) (7 : Int32) (0 : Int32)) [(.double (FP.dadd c1 d4)), (.ref a1)]) _
    refine st66 _ ?_
    show GO p e below T66 (mkF m 165 (la3 a1 p2 p3 d4 p5 (7 : Int32) (7 : Int32) (0 : Int32)) []) _
    exact X66.returnOut hx Bd.returns (hb hby d5_165) hr
  · show Qrm_add0 Z a1 p2 p3 d4 p5 c1 t0 k0 vA t1 k1 vL t2 k2 vD t3 k3 vR h0 n0 _ T66.heap _
    rw [e66]
    exact ⟨rfl, N66, (((((((Keep.refl h0 [a1, t0, t1, t2, t3]).wr W43 (Or.inl (List.mem_of_getElem? (i := 1) rfl))).wr W48 (Or.inl (List.mem_of_getElem? (i := 2) rfl))).wr W53 (Or.inl (List.mem_of_getElem? (i := 3) rfl))).wr W58 (Or.inl (List.mem_of_getElem? (i := 4) rfl))).wr W62 (Or.inl (List.mem_of_getElem? (i := 0) rfl))).wr W66 (Or.inl (List.mem_of_getElem? (i := 0) rfl))), f67, f68, f69, f66, f70, f71, f72, f73, f74, f75, f76, f77⟩
def Qrm_add1 (Z : State) (a1 : Addr) (p2 : Int32) (p3 : Int32) (d4 : UInt64) (p5 : Int32) (c1 : UInt64) (t0 : Addr) (k0 : ClassId) (vA : List Value) (t1 : Addr) (k1 : ClassId) (vL : List Value) (t2 : Addr) (k2 : ClassId) (vD : List Value) (t3 : Addr) (k3 : ClassId) (vR : List Value) (x7 : Int32) (h0 : Heap) (n0 : Nat) (v : Option Value) (h : Heap) (L : List Loc) : Prop := v = none ∧ Fr n0 L ∧ Keep h0 h [a1, t0, t1, t2, t3] ∧ Exa Z h a1 kS0 ∧ Fld Z h a1 kS0 "head" "I" (.int 0) ∧ Fld Z h a1 kS0 "size" "I" (.int 2) ∧ Fld Z h a1 kS0 "content" "D" (.double (FP.dadd c1 d4)) ∧ Fld Z h a1 kS0 "agents" "[I" (.ref t0) ∧ Arv Z h t0 k0 .int (8 : Int32) (vA.set 1 (.int p2)) (.int 0) ∧ Fld Z h a1 kS0 "legs" "[I" (.ref t1) ∧ Arv Z h t1 k1 .int (8 : Int32) (vL.set 1 (.int p3)) (.int 0) ∧ Fld Z h a1 kS0 "amounts" "[D" (.ref t2) ∧ Arv Z h t2 k2 .double (8 : Int32) (vD.set 1 (.double d4)) (.double (0 : UInt64)) ∧ Fld Z h a1 kS0 "rears" "[Z" (.ref t3) ∧ Arv Z h t3 k3 .boolean (8 : Int32) (vR.set 1 (.int (nar .boolean p5))) (.int 0)
theorem ef_rm_add1 (m : MethodId) (x0 : Addr) (x1 : Int32) (x2 : Int32) (x3 : UInt64) (x4 : Int32) : entryFrame m #[(.ref x0), (.int x1), (.int x2), (.double x3), (.int x4)] 9 = mkF m 0 (la0 x0 x1 x2 x3 x4) [] := by first | rfl | (simp [entryFrame, mkF, argsToLocals, Value.category]; done)
set_option maxRecDepth 65536 in
set_option maxHeartbeats 40000000 in
theorem rm_add1 (l : Launch) (Z : State) (a0 : Array Value) (hw : ∀ d ∈ tables_1, d.before a0 Z = true) (ws : List Jvm.Cond) (a1 : Addr) (p2 : Int32) (p3 : Int32) (d4 : UInt64) (p5 : Int32) (c1 : UInt64) (t0 : Addr) (k0 : ClassId) (vA : List Value) (t1 : Addr) (k1 : ClassId) (vL : List Value) (t2 : Addr) (k2 : ClassId) (vD : List Value) (t3 : Addr) (k3 : ClassId) (vR : List Value) (x7 : Int32) (h0 : Heap) (n0 : Nat) (Z0 : n0 ≤ h0.size) (E1 : Exa Z h0 a1 kS0) (Fh : Fld Z h0 a1 kS0 "head" "I" (.int 0)) (Fs : Fld Z h0 a1 kS0 "size" "I" (.int 1)) (Fc : Fld Z h0 a1 kS0 "content" "D" (.double c1)) (F0 : Fld Z h0 a1 kS0 "agents" "[I" (.ref t0)) (V0 : Arv Z h0 t0 k0 .int (8 : Int32) vA (.int 0)) (F1 : Fld Z h0 a1 kS0 "legs" "[I" (.ref t1)) (V1 : Arv Z h0 t1 k1 .int (8 : Int32) vL (.int 0)) (F2 : Fld Z h0 a1 kS0 "amounts" "[D" (.ref t2)) (V2 : Arv Z h0 t2 k2 .double (8 : Int32) vD (.double (0 : UInt64))) (F3 : Fld Z h0 a1 kS0 "rears" "[Z" (.ref t3)) (V3 : Arv Z h0 t3 k3 .boolean (8 : Int32) vR (.int 0)) (len0 : vA.length = 8) (len1 : vL.length = 8) (len2 : vD.length = 8) (len3 : vR.length = 8) (o1 : LT.lt (α := Nat) a1 t0) (o2 : LT.lt (α := Nat) t0 t1) (o3 : LT.lt (α := Nat) t1 t2) (o4 : LT.lt (α := Nat) t2 t3) (g1 : n0 ≤ a1) (hn : Jvm.Free.Fl.NoNaN64 (FP.dadd c1 d4)) (hx7 : vA.getD ((0 : Int32)).toNatClampNeg (.int 0) = (.int x7)) (hd7 : ¬ (x7 = p2)) :
    MetFree l (⟨kS0, "add", "(IIDZ)V"⟩ : MethodName) (head1 (Jvm.Cond.code (⟨kS0, "add", "(IIDZ)V"⟩ : MethodName) prog_14_method_11_code 9 none :: ws) ({ frames := 0, cells := 0, slots := 0, locals := 0 } : Room)) (fun a U => a = #[(.ref a1), (.int p2), (.int p3), (.double d4), (.int p5)] ∧ Z.Warmed39 U.vm ∧ U.heap = h0) (fun _ _ _ _ _ => True) (fun _ U o U' => ∃ v L, o = .returned v ∧ Qrm_add1 Z a1 p2 p3 d4 p5 c1 t0 k0 vA t1 k1 vL t2 k2 vD t3 k3 vR x7 h0 n0 v U'.heap L ∧ FrameEnd U o U' L ({ frames := 0, cells := 0, slots := 0, locals := 0 } : Room).cells ({ frames := 0, cells := 0, slots := 0, locals := 0 } : Room).slots) := by
  refine MetFree.of_bodySF (plainFor_of_name pn_0) hisR ?_
  intro p e s m args below meth c s₁ Bd hml0 hP hK
  obtain ⟨rfl, hZ, hh⟩ := hP
  have hx := Bd.exec
  have hby := Bd.bytes
  have hml : c.maxLocals = 9 := hml0
  have hown : s.vm.findClass kS0 = some m.cls := findClass_of_methodNamed Bd.named
  have hnm := (name_of_methodNamed Bd.named Bd.method).1
  have X0 : Stand p l e ({ frames := 0, cells := 0, slots := 0, locals := 0 } : Room) s m #[(.ref a1), (.int p2), (.int p3), (.double d4), (.int p5)] below meth c s₁ [] 0 0 := Stand.of_body Bd
  have e0 : s₁.heap = h0 := by rw [← hh, Bd.state]; rfl
  have N0 := Fr.nil n0
  have pre0 : ∀ t, Steps p.tables e below (s₁.setTop (mkF m 0 (la0 a1 p2 p3 d4 p5) [])) t → Steps p.tables e below (s₁.setTop (entryFrame m #[(.ref a1), (.int p2), (.int p3), (.double d4), (.int p5)] 9)) t := fun t k => castTop (ef_rm_add1 m a1 p2 p3 d4 p5) k
  have lt_E1 := ltA E1.lt
  have lt_Fh := ltA Fh.lt
  have lt_Fs := ltA Fs.lt
  have lt_Fc := ltA Fc.lt
  have lt_F0 := ltA F0.lt
  have lt_V0 := ltA V0.lt
  have lt_F1 := ltA F1.lt
  have lt_V1 := ltA V1.lt
  have lt_F2 := ltA F2.lt
  have lt_V2 := ltA V2.lt
  have lt_F3 := ltA F3.lt
  have lt_V3 := ltA V3.lt
  obtain ⟨T78, X78, e78, st78⟩ := getF X0 hx hZ hown (host := "") (Or.inl (wd hw 15 rfl)) Via.refl e0 F0 (g := (mkF m 1 (la0 a1 p2 p3 d4 p5) [(.ref a1)])) rfl rfl (hb hby d5_1)
  obtain ⟨cl79, Ar79, -, S79, M79, -, -⟩ := id V0
  obtain ⟨T80, X80, e80, st80⟩ := getF X78 hx hZ hown (host := "") (Or.inl (wd hw 37 rfl)) Via.refl e78 Fh (g := (mkF m 10 (la1 a1 p2 p3 d4 p5 (7 : Int32)) [(.ref a1)])) rfl rfl (hb hby d5_10)
  obtain ⟨T81, X81, e81, st81⟩ := getF X80 hx hZ hown (host := "") (Or.inl (wd hw 30 rfl)) Via.refl e80 Fs (g := (mkF m 14 (la1 a1 p2 p3 d4 p5 (7 : Int32)) [(.ref a1), (.int 0)])) rfl rfl (hb hby d5_14)
  obtain ⟨T82, X82, e82, st82⟩ := getF X81 hx hZ hown (host := "") (Or.inl (wd hw 30 rfl)) Via.refl e81 Fs (g := (mkF m 26 (la2 a1 p2 p3 d4 p5 (7 : Int32) (0 : Int32)) [(.ref a1)])) rfl rfl (hb hby d5_26)
  obtain ⟨T83, X83, e83, st83⟩ := getF X82 hx hZ hown (host := "") (Or.inl (wd hw 15 rfl)) Via.refl e82 F0 (g := (mkF m 33 (la2 a1 p2 p3 d4 p5 (7 : Int32) (0 : Int32)) [(.ref a1)])) rfl rfl (hb hby d5_33)
  obtain ⟨cl84, Ar84, q84, S84, M84, H84, G84⟩ := id V0
  have hin84 : ¬ ((0 : Int32) < 0 ∨ cl84.slots.size ≤ ((0 : Int32)).toNatClampNeg) := inb_of S84 ⟨by decide, by decide⟩
  have hat84 : cl84.slots[((0 : Int32)).toNatClampNeg]? = some (.int x7) := Has.at H84 hin84 hx7
  obtain ⟨T85, X85, e85, st85⟩ := getF X83 hx hZ hown (host := "") (Or.inl (wd hw 30 rfl)) Via.refl e83 Fs (g := (mkF m 78 (la2 a1 p2 p3 d4 p5 (7 : Int32) (0 : Int32)) [(.ref a1)])) rfl rfl (hb hby d5_78)
  obtain ⟨T86, X86, e86, st86⟩ := getF X85 hx hZ hown (host := "") (Or.inl (wd hw 15 rfl)) Via.refl e85 F0 (g := (mkF m 82 (la2 a1 p2 p3 d4 p5 (7 : Int32) (0 : Int32)) [(.ref a1), (.int 1)])) rfl rfl (hb hby d5_82)
  obtain ⟨cl87, Ar87, -, S87, M87, -, -⟩ := id V0
  obtain ⟨T88, X88, e88, st88⟩ := getF X86 hx hZ hown (host := "") (Or.inl (wd hw 37 rfl)) Via.refl e86 Fh (g := (mkF m 94 (la2 a1 p2 p3 d4 p5 (7 : Int32) (0 : Int32)) [(.ref a1)])) rfl rfl (hb hby d5_94)
  obtain ⟨T89, X89, e89, st89⟩ := getF X88 hx hZ hown (host := "") (Or.inl (wd hw 30 rfl)) Via.refl e88 Fs (g := (mkF m 98 (la2 a1 p2 p3 d4 p5 (7 : Int32) (0 : Int32)) [(.ref a1), (.int 0)])) rfl rfl (hb hby d5_98)
  obtain ⟨T90, X90, e90, st90⟩ := getF X89 hx hZ hown (host := "") (Or.inl (wd hw 15 rfl)) Via.refl e89 F0 (g := (mkF m 103 (la2 a1 p2 p3 d4 p5 (7 : Int32) (0 : Int32)) [(.ref a1), (.int 1)])) rfl rfl (hb hby d5_103)
  obtain ⟨cl91, Ar91, -, S91, M91, -, -⟩ := id V0
  obtain ⟨T92, X92, e92, st92⟩ := getF X90 hx hZ hown (host := "") (Or.inl (wd hw 15 rfl)) Via.refl e90 F0 (g := (mkF m 113 (la3 a1 p2 p3 d4 p5 (7 : Int32) (0 : Int32) (1 : Int32)) [(.ref a1)])) rfl rfl (hb hby d5_113)
  obtain ⟨cl93, Ar93, q93, S93, M93, H93, G93⟩ := id V0
  have hin93 : ¬ ((1 : Int32) < 0 ∨ cl93.slots.size ≤ ((1 : Int32)).toNatClampNeg) := inb_of S93 ⟨by decide, by decide⟩
  obtain ⟨T94, h94, X94, e94, W94, st94⟩ := stI X92 hx hZ e92 Ar93 (j := (1 : Int32)) hin93 (g := (mkF m 119 (la3 a1 p2 p3 d4 p5 (7 : Int32) (0 : Int32) (1 : Int32)) [(.int p2), (.int 1), (.ref t0)])) rfl rfl (hb hby d5_119)
  have N94 := Fr.snoc X94 N0 (by omega : n0 ≤ t0)
  have sz94 : h0.size ≤ h94.size := Nat.le_of_eq W94.size.symm
  have V94 : Arv Z h94 t0 k0 .int (8 : Int32) (vA.set 1 (.int p2)) (.int 0) := Arv.set Ar93 q93 S93 M93 H93 G93 rfl W94 1 rfl (by omega)
  have f95 : Fld Z h94 a1 kS0 "legs" "[I" (.ref t1) := (F1.other W94 (Or.inl (neN (by omega))))
  obtain ⟨T96, X96, e96, st96⟩ := getF X94 hx hZ hown (host := "") (Or.inl (wd hw 17 rfl)) Via.refl e94 f95 (g := (mkF m 121 (la3 a1 p2 p3 d4 p5 (7 : Int32) (0 : Int32) (1 : Int32)) [(.ref a1)])) rfl rfl (hb hby d5_121)
  have f97 : Arv Z h94 t1 k1 .int (8 : Int32) vL (.int 0) := (V1.other W94 (neN (by omega)))
  obtain ⟨cl98, Ar98, q98, S98, M98, H98, G98⟩ := id f97
  have hin98 : ¬ ((1 : Int32) < 0 ∨ cl98.slots.size ≤ ((1 : Int32)).toNatClampNeg) := inb_of S98 ⟨by decide, by decide⟩
  obtain ⟨T99, h99, X99, e99, W99, st99⟩ := stI X96 hx hZ e96 Ar98 (j := (1 : Int32)) hin98 (g := (mkF m 127 (la3 a1 p2 p3 d4 p5 (7 : Int32) (0 : Int32) (1 : Int32)) [(.int p3), (.int 1), (.ref t1)])) rfl rfl (hb hby d5_127)
  have N99 := Fr.snoc X99 N94 (by omega : n0 ≤ t1)
  have sz99 : h94.size ≤ h99.size := Nat.le_of_eq W99.size.symm
  have V99 : Arv Z h99 t1 k1 .int (8 : Int32) (vL.set 1 (.int p3)) (.int 0) := Arv.set Ar98 q98 S98 M98 H98 G98 rfl W99 1 rfl (by omega)
  have f100 : Fld Z h99 a1 kS0 "amounts" "[D" (.ref t2) := ((F2.other W94 (Or.inl (neN (by omega)))).other W99 (Or.inl (neN (by omega))))
  obtain ⟨T101, X101, e101, st101⟩ := getF X99 hx hZ hown (host := "") (Or.inl (wd hw 20 rfl)) Via.refl e99 f100 (g := (mkF m 129 (la3 a1 p2 p3 d4 p5 (7 : Int32) (0 : Int32) (1 : Int32)) [(.ref a1)])) rfl rfl (hb hby d5_129)
  have f102 : Arv Z h99 t2 k2 .double (8 : Int32) vD (.double (0 : UInt64)) := ((V2.other W94 (neN (by omega))).other W99 (neN (by omega)))
  obtain ⟨cl103, Ar103, q103, S103, M103, H103, G103⟩ := id f102
  have hin103 : ¬ ((1 : Int32) < 0 ∨ cl103.slots.size ≤ ((1 : Int32)).toNatClampNeg) := inb_of S103 ⟨by decide, by decide⟩
  obtain ⟨T104, h104, X104, e104, W104, st104⟩ := stD X101 hx hZ e101 Ar103 (j := (1 : Int32)) hin103 (g := (mkF m 135 (la3 a1 p2 p3 d4 p5 (7 : Int32) (0 : Int32) (1 : Int32)) [(.double d4), (.int 1), (.ref t2)])) rfl rfl (hb hby d5_135)
  have N104 := Fr.snoc X104 N99 (by omega : n0 ≤ t2)
  have sz104 : h99.size ≤ h104.size := Nat.le_of_eq W104.size.symm
  have V104 : Arv Z h104 t2 k2 .double (8 : Int32) (vD.set 1 (.double d4)) (.double (0 : UInt64)) := Arv.set Ar103 q103 S103 M103 H103 G103 rfl W104 1 rfl (by omega)
  have f105 : Fld Z h104 a1 kS0 "rears" "[Z" (.ref t3) := (((F3.other W94 (Or.inl (neN (by omega)))).other W99 (Or.inl (neN (by omega)))).other W104 (Or.inl (neN (by omega))))
  obtain ⟨T106, X106, e106, st106⟩ := getF X104 hx hZ hown (host := "") (Or.inl (wd hw 23 rfl)) Via.refl e104 f105 (g := (mkF m 137 (la3 a1 p2 p3 d4 p5 (7 : Int32) (0 : Int32) (1 : Int32)) [(.ref a1)])) rfl rfl (hb hby d5_137)
  have f107 : Arv Z h104 t3 k3 .boolean (8 : Int32) vR (.int 0) := (((V3.other W94 (neN (by omega))).other W99 (neN (by omega))).other W104 (neN (by omega)))
  obtain ⟨cl108, Ar108, q108, S108, M108, H108, G108⟩ := id f107
  have hin108 : ¬ ((1 : Int32) < 0 ∨ cl108.slots.size ≤ ((1 : Int32)).toNatClampNeg) := inb_of S108 ⟨by decide, by decide⟩
  obtain ⟨T109, h109, X109, e109, W109, st109⟩ := stZ X106 hx hZ e106 Ar108 (j := (1 : Int32)) hin108 (g := (mkF m 144 (la3 a1 p2 p3 d4 p5 (7 : Int32) (0 : Int32) (1 : Int32)) [(.int p5), (.int 1), (.ref t3)])) rfl rfl (hb hby d5_144)
  have N109 := Fr.snoc X109 N104 (by omega : n0 ≤ t3)
  have sz109 : h104.size ≤ h109.size := Nat.le_of_eq W109.size.symm
  have V109 : Arv Z h109 t3 k3 .boolean (8 : Int32) (vR.set 1 (.int (nar .boolean p5))) (.int 0) := Arv.set Ar108 q108 S108 M108 H108 G108 (fits_nar_bool _) W109 1 rfl (by omega)
  have f110 : Fld Z h109 a1 kS0 "size" "I" (.int 1) := ((((Fs.other W94 (Or.inl (neN (by omega)))).other W99 (Or.inl (neN (by omega)))).other W104 (Or.inl (neN (by omega)))).other W109 (Or.inl (neN (by omega))))
  obtain ⟨T111, X111, e111, st111⟩ := getF X109 hx hZ hown (host := "") (Or.inl (wd hw 30 rfl)) Via.refl e109 f110 (g := (mkF m 147 (la3 a1 p2 p3 d4 p5 (7 : Int32) (0 : Int32) (1 : Int32)) [(.ref a1), (.ref a1)])) rfl rfl (hb hby d5_147)
  have f112 : Exa Z h109 a1 kS0 := ((((E1.wr W94).wr W99).wr W104).wr W109)
  obtain ⟨T113, h113, X113, e113, W113, st113⟩ := putF X111 hx hZ hown (host := "") (Or.inl (wd hw 30 rfl)) Via.refl e111 f110 f112 (Or.inl (wd hw 31 rfl)) (wd hw 6 rfl) (ty := .int) (by decide) rfl rfl (g := (mkF m 152 (la3 a1 p2 p3 d4 p5 (7 : Int32) (0 : Int32) (1 : Int32)) [(.int 2), (.ref a1)])) rfl rfl (hb hby d5_152)
  have N113 := Fr.snoc X113 N109 (by omega : n0 ≤ a1)
  have sz113 : h109.size ≤ h113.size := Nat.le_of_eq W113.size.symm
  have f113 : Fld Z h113 a1 kS0 "size" "I" (.int 2) := f110.same W113
  have f114 : Fld Z h113 a1 kS0 "content" "D" (.double c1) := (((((Fc.other W94 (Or.inl (neN (by omega)))).other W99 (Or.inl (neN (by omega)))).other W104 (Or.inl (neN (by omega)))).other W109 (Or.inl (neN (by omega)))).other W113 (Or.inr (slot_ne (Or.inl (wd hw 40 rfl)) (Or.inl (wd hw 31 rfl)) (by decide) (t := .double) (t' := .int) (by decide) (by decide))))
  obtain ⟨T115, X115, e115, st115⟩ := getF X113 hx hZ hown (host := "") (Or.inl (wd hw 39 rfl)) Via.refl e113 f114 (g := (mkF m 157 (la3 a1 p2 p3 d4 p5 (7 : Int32) (0 : Int32) (1 : Int32)) [(.ref a1), (.ref a1)])) rfl rfl (hb hby d5_157)
  have f116 : Exa Z h113 a1 kS0 := (f112.wr W113)
  obtain ⟨T117, h117, X117, e117, W117, st117⟩ := putF X115 hx hZ hown (host := "") (Or.inl (wd hw 39 rfl)) Via.refl e115 f114 f116 (Or.inl (wd hw 40 rfl)) (wd hw 6 rfl) (ty := .double) (by decide) rfl rfl (g := (mkF m 162 (la3 a1 p2 p3 d4 p5 (7 : Int32) (0 : Int32) (1 : Int32)) [(.double (FP.dadd c1 d4)), (.ref a1)])) rfl rfl (hb hby d5_162)
  have N117 := Fr.snoc X117 N113 (by omega : n0 ≤ a1)
  have sz117 : h113.size ≤ h117.size := Nat.le_of_eq W117.size.symm
  have f117 : Fld Z h117 a1 kS0 "content" "D" (.double (FP.dadd c1 d4)) := f114.same W117
  have f118 : Exa Z h117 a1 kS0 := (f116.wr W117)
  have f119 : Fld Z h117 a1 kS0 "head" "I" (.int 0) := ((((((Fh.other W94 (Or.inl (neN (by omega)))).other W99 (Or.inl (neN (by omega)))).other W104 (Or.inl (neN (by omega)))).other W109 (Or.inl (neN (by omega)))).other W113 (Or.inr (slot_ne (Or.inl (wd hw 38 rfl)) (Or.inl (wd hw 31 rfl)) (by decide) (t := .int) (t' := .int) (by decide) (by decide)))).other W117 (Or.inr (slot_ne (Or.inl (wd hw 38 rfl)) (Or.inl (wd hw 40 rfl)) (by decide) (t := .int) (t' := .double) (by decide) (by decide))))
  have f120 : Fld Z h117 a1 kS0 "size" "I" (.int 2) := (f113.other W117 (Or.inr (slot_ne (Or.inl (wd hw 31 rfl)) (Or.inl (wd hw 40 rfl)) (by decide) (t := .int) (t' := .double) (by decide) (by decide))))
  have f121 : Fld Z h117 a1 kS0 "agents" "[I" (.ref t0) := ((((((F0.other W94 (Or.inl (neN (by omega)))).other W99 (Or.inl (neN (by omega)))).other W104 (Or.inl (neN (by omega)))).other W109 (Or.inl (neN (by omega)))).other W113 (Or.inr (slot_ne (Or.inl (wd hw 16 rfl)) (Or.inl (wd hw 31 rfl)) (by decide) (t := (.array .int)) (t' := .int) (by decide) (by decide)))).other W117 (Or.inr (slot_ne (Or.inl (wd hw 16 rfl)) (Or.inl (wd hw 40 rfl)) (by decide) (t := (.array .int)) (t' := .double) (by decide) (by decide))))
  have f122 : Arv Z h117 t0 k0 .int (8 : Int32) (vA.set 1 (.int p2)) (.int 0) := (((((V94.other W99 (neN (by omega))).other W104 (neN (by omega))).other W109 (neN (by omega))).other W113 (neN (by omega))).other W117 (neN (by omega)))
  have f123 : Fld Z h117 a1 kS0 "legs" "[I" (.ref t1) := (((((f95.other W99 (Or.inl (neN (by omega)))).other W104 (Or.inl (neN (by omega)))).other W109 (Or.inl (neN (by omega)))).other W113 (Or.inr (slot_ne (Or.inl (wd hw 18 rfl)) (Or.inl (wd hw 31 rfl)) (by decide) (t := (.array .int)) (t' := .int) (by decide) (by decide)))).other W117 (Or.inr (slot_ne (Or.inl (wd hw 18 rfl)) (Or.inl (wd hw 40 rfl)) (by decide) (t := (.array .int)) (t' := .double) (by decide) (by decide))))
  have f124 : Arv Z h117 t1 k1 .int (8 : Int32) (vL.set 1 (.int p3)) (.int 0) := ((((V99.other W104 (neN (by omega))).other W109 (neN (by omega))).other W113 (neN (by omega))).other W117 (neN (by omega)))
  have f125 : Fld Z h117 a1 kS0 "amounts" "[D" (.ref t2) := ((((f100.other W104 (Or.inl (neN (by omega)))).other W109 (Or.inl (neN (by omega)))).other W113 (Or.inr (slot_ne (Or.inl (wd hw 21 rfl)) (Or.inl (wd hw 31 rfl)) (by decide) (t := (.array .double)) (t' := .int) (by decide) (by decide)))).other W117 (Or.inr (slot_ne (Or.inl (wd hw 21 rfl)) (Or.inl (wd hw 40 rfl)) (by decide) (t := (.array .double)) (t' := .double) (by decide) (by decide))))
  have f126 : Arv Z h117 t2 k2 .double (8 : Int32) (vD.set 1 (.double d4)) (.double (0 : UInt64)) := (((V104.other W109 (neN (by omega))).other W113 (neN (by omega))).other W117 (neN (by omega)))
  have f127 : Fld Z h117 a1 kS0 "rears" "[Z" (.ref t3) := (((f105.other W109 (Or.inl (neN (by omega)))).other W113 (Or.inr (slot_ne (Or.inl (wd hw 24 rfl)) (Or.inl (wd hw 31 rfl)) (by decide) (t := (.array .boolean)) (t' := .int) (by decide) (by decide)))).other W117 (Or.inr (slot_ne (Or.inl (wd hw 24 rfl)) (Or.inl (wd hw 40 rfl)) (by decide) (t := (.array .boolean)) (t' := .double) (by decide) (by decide))))
  have f128 : Arv Z h117 t3 k3 .boolean (8 : Int32) (vR.set 1 (.int (nar .boolean p5))) (.int 0) := ((V109.other W113 (neN (by omega))).other W117 (neN (by omega)))
  obtain ⟨fs, hr, hrun, hended, hW, hsame⟩ := X117.leave (v := none) (fun _ => rfl)
  refine ⟨_, _, pre0 _ ?_, hrun, hended, _, _, rfl, ?_, ⟨_, rfl⟩, hW, hsame.mono (by decide) (by decide)⟩
  · show GO p e below s₁ (mkF m 0 (la0 a1 p2 p3 d4 p5) []) _
    refine XS.aloadN X0.here hx rfl (hb hby d5_0) rfl rfl ?_
    show GO p e below s₁ (mkF m 1 (la0 a1 p2 p3 d4 p5) [(.ref a1)]) _
    refine st78 _ ?_
    show GO p e below T78 (mkF m 4 (la0 a1 p2 p3 d4 p5) [(.ref t0)]) _
    refine X78.arraylength hx (by rw [e78]; exact Ar79.1) (State.isArrayOf_alike hZ.alike Ar79.2.1) (g := (mkF m 4 (la0 a1 p2 p3 d4 p5) [(.ref t0)])) rfl rfl (hb hby d5_4) _ ?_
    rw [len_of S79 M79]
    show GO p e below T78 (mkF m 5 (la0 a1 p2 p3 d4 p5) [(.int 8)]) _
    refine XS.iconst X78.here hx rfl (hb hby d5_5) ?_
    show GO p e below T78 (mkF m 6 (la0 a1 p2 p3 d4 p5) [(.int 1), (.int 8)]) _
    refine XS.isub X78.here hx rfl (hb hby d5_6) rfl ?_
    rw [show ((8 : Int32) - (1 : Int32)) = (7 : Int32) from by decide]
    show GO p e below T78 (mkF m 7 (la0 a1 p2 p3 d4 p5) [(.int 7)]) _
    refine XS.istore X78.here hx rfl (hb hby d5_7) rfl (l' := (la1 a1 p2 p3 d4 p5 (7 : Int32))) rfl ?_
    show GO p e below T78 (mkF m 9 (la1 a1 p2 p3 d4 p5 (7 : Int32)) []) _
    refine XS.aloadN X78.here hx rfl (hb hby d5_9) rfl rfl ?_
    show GO p e below T78 (mkF m 10 (la1 a1 p2 p3 d4 p5 (7 : Int32)) [(.ref a1)]) _
    refine st80 _ ?_
    show GO p e below T80 (mkF m 13 (la1 a1 p2 p3 d4 p5 (7 : Int32)) [(.int 0)]) _
    refine XS.aloadN X80.here hx rfl (hb hby d5_13) rfl rfl ?_
    show GO p e below T80 (mkF m 14 (la1 a1 p2 p3 d4 p5 (7 : Int32)) [(.ref a1), (.int 0)]) _
    refine st81 _ ?_
    show GO p e below T81 (mkF m 17 (la1 a1 p2 p3 d4 p5 (7 : Int32)) [(.int 1), (.int 0)]) _
    refine XS.iadd X81.here hx rfl (hb hby d5_17) rfl ?_
    rw [show ((0 : Int32) + (1 : Int32)) = (1 : Int32) from by decide]
    show GO p e below T81 (mkF m 18 (la1 a1 p2 p3 d4 p5 (7 : Int32)) [(.int 1)]) _
    refine XS.iconst X81.here hx rfl (hb hby d5_18) ?_
    show GO p e below T81 (mkF m 19 (la1 a1 p2 p3 d4 p5 (7 : Int32)) [(.int 1), (.int 1)]) _
    refine XS.isub X81.here hx rfl (hb hby d5_19) rfl ?_
    rw [show ((1 : Int32) - (1 : Int32)) = (0 : Int32) from by decide]
    show GO p e below T81 (mkF m 20 (la1 a1 p2 p3 d4 p5 (7 : Int32)) [(.int 0)]) _
    refine XS.iload X81.here hx rfl (hb hby d5_20) rfl ?_
    show GO p e below T81 (mkF m 22 (la1 a1 p2 p3 d4 p5 (7 : Int32)) [(.int 7), (.int 0)]) _
    refine XS.iand X81.here hx rfl (hb hby d5_22) rfl ?_
    rw [show ((0 : Int32) &&& (7 : Int32)) = (0 : Int32) from by decide]
    show GO p e below T81 (mkF m 23 (la1 a1 p2 p3 d4 p5 (7 : Int32)) [(.int 0)]) _
    refine XS.istore X81.here hx rfl (hb hby d5_23) rfl (l' := (la2 a1 p2 p3 d4 p5 (7 : Int32) (0 : Int32))) rfl ?_
    show GO p e below T81 (mkF m 25 (la2 a1 p2 p3 d4 p5 (7 : Int32) (0 : Int32)) []) _
    refine XS.aloadN X81.here hx rfl (hb hby d5_25) rfl rfl ?_
    show GO p e below T81 (mkF m 26 (la2 a1 p2 p3 d4 p5 (7 : Int32) (0 : Int32)) [(.ref a1)]) _
    refine st82 _ ?_
    show GO p e below T82 (mkF m 29 (la2 a1 p2 p3 d4 p5 (7 : Int32) (0 : Int32)) [(.int 1)]) _
    refine XS.ifNo X82.here hx rfl (hb hby d5_29) rfl ((if0 _ _).trans (tlt ((by decide) : (0 : Int32) < (1 : Int32))).2.2.2) ?_
    show GO p e below T82 (mkF m 32 (la2 a1 p2 p3 d4 p5 (7 : Int32) (0 : Int32)) []) _
    refine XS.aloadN X82.here hx rfl (hb hby d5_32) rfl rfl ?_
    show GO p e below T82 (mkF m 33 (la2 a1 p2 p3 d4 p5 (7 : Int32) (0 : Int32)) [(.ref a1)]) _
    refine st83 _ ?_
    show GO p e below T83 (mkF m 36 (la2 a1 p2 p3 d4 p5 (7 : Int32) (0 : Int32)) [(.ref t0)]) _
    refine XS.iload X83.here hx rfl (hb hby d5_36) rfl ?_
    show GO p e below T83 (mkF m 38 (la2 a1 p2 p3 d4 p5 (7 : Int32) (0 : Int32)) [(.int 0), (.ref t0)]) _
    refine X83.iaload hx (j := (0 : Int32)) (v := (.int x7)) (by rw [e83]; exact Ar84.1) (State.isArrayOf_alike hZ.alike Ar84.2.1) Ar84.2.2 hin84 hat84 (g := (mkF m 38 (la2 a1 p2 p3 d4 p5 (7 : Int32) (0 : Int32)) [(.int 0), (.ref t0)])) rfl rfl (hb hby d5_38) _ ?_
    show GO p e below T83 (mkF m 39 (la2 a1 p2 p3 d4 p5 (7 : Int32) (0 : Int32)) [(.int x7)]) _
    refine XS.iloadN X83.here hx rfl (hb hby d5_39) rfl ?_
    show GO p e below T83 (mkF m 40 (la2 a1 p2 p3 d4 p5 (7 : Int32) (0 : Int32)) [(.int p2), (.int x7)]) _
    refine XS.icmpYes X83.here hx rfl (pc0 := 40) (pc' := 77) rfl (hb hby d5_40) rfl (feq (hd7 : ¬ (x7 = p2))).2 (by decide) (by decide) ?_
    show GO p e below T83 (mkF m 77 (la2 a1 p2 p3 d4 p5 (7 : Int32) (0 : Int32)) []) _
    refine XS.aloadN X83.here hx rfl (hb hby d5_77) rfl rfl ?_
    show GO p e below T83 (mkF m 78 (la2 a1 p2 p3 d4 p5 (7 : Int32) (0 : Int32)) [(.ref a1)]) _
    refine st85 _ ?_
    show GO p e below T85 (mkF m 81 (la2 a1 p2 p3 d4 p5 (7 : Int32) (0 : Int32)) [(.int 1)]) _
    refine XS.aloadN X85.here hx rfl (hb hby d5_81) rfl rfl ?_
    show GO p e below T85 (mkF m 82 (la2 a1 p2 p3 d4 p5 (7 : Int32) (0 : Int32)) [(.ref a1), (.int 1)]) _
    refine st86 _ ?_
    show GO p e below T86 (mkF m 85 (la2 a1 p2 p3 d4 p5 (7 : Int32) (0 : Int32)) [(.ref t0), (.int 1)]) _
    refine X86.arraylength hx (by rw [e86]; exact Ar87.1) (State.isArrayOf_alike hZ.alike Ar87.2.1) (g := (mkF m 85 (la2 a1 p2 p3 d4 p5 (7 : Int32) (0 : Int32)) [(.ref t0), (.int 1)])) rfl rfl (hb hby d5_85) _ ?_
    rw [len_of S87 M87]
    show GO p e below T86 (mkF m 86 (la2 a1 p2 p3 d4 p5 (7 : Int32) (0 : Int32)) [(.int 8), (.int 1)]) _
    refine XS.icmpYes X86.here hx rfl (pc0 := 86) (pc' := 93) rfl (hb hby d5_86) rfl (feq ((by decide) : ¬ ((1 : Int32) = (8 : Int32)))).2 (by decide) (by decide) ?_
    show GO p e below T86 (mkF m 93 (la2 a1 p2 p3 d4 p5 (7 : Int32) (0 : Int32)) []) _
    refine XS.aloadN X86.here hx rfl (hb hby d5_93) rfl rfl ?_
    show GO p e below T86 (mkF m 94 (la2 a1 p2 p3 d4 p5 (7 : Int32) (0 : Int32)) [(.ref a1)]) _
    refine st88 _ ?_
    show GO p e below T88 (mkF m 97 (la2 a1 p2 p3 d4 p5 (7 : Int32) (0 : Int32)) [(.int 0)]) _
    refine XS.aloadN X88.here hx rfl (hb hby d5_97) rfl rfl ?_
    show GO p e below T88 (mkF m 98 (la2 a1 p2 p3 d4 p5 (7 : Int32) (0 : Int32)) [(.ref a1), (.int 0)]) _
    refine st89 _ ?_
    show GO p e below T89 (mkF m 101 (la2 a1 p2 p3 d4 p5 (7 : Int32) (0 : Int32)) [(.int 1), (.int 0)]) _
    refine XS.iadd X89.here hx rfl (hb hby d5_101) rfl ?_
    rw [show ((0 : Int32) + (1 : Int32)) = (1 : Int32) from by decide]
    show GO p e below T89 (mkF m 102 (la2 a1 p2 p3 d4 p5 (7 : Int32) (0 : Int32)) [(.int 1)]) _
    refine XS.aloadN X89.here hx rfl (hb hby d5_102) rfl rfl ?_
    show GO p e below T89 (mkF m 103 (la2 a1 p2 p3 d4 p5 (7 : Int32) (0 : Int32)) [(.ref a1), (.int 1)]) _
    refine st90 _ ?_
    show GO p e below T90 (mkF m 106 (la2 a1 p2 p3 d4 p5 (7 : Int32) (0 : Int32)) [(.ref t0), (.int 1)]) _
    refine X90.arraylength hx (by rw [e90]; exact Ar91.1) (State.isArrayOf_alike hZ.alike Ar91.2.1) (g := (mkF m 106 (la2 a1 p2 p3 d4 p5 (7 : Int32) (0 : Int32)) [(.ref t0), (.int 1)])) rfl rfl (hb hby d5_106) _ ?_
    rw [len_of S91 M91]
    show GO p e below T90 (mkF m 107 (la2 a1 p2 p3 d4 p5 (7 : Int32) (0 : Int32)) [(.int 8), (.int 1)]) _
    refine XS.iconst X90.here hx rfl (hb hby d5_107) ?_
    show GO p e below T90 (mkF m 108 (la2 a1 p2 p3 d4 p5 (7 : Int32) (0 : Int32)) [(.int 1), (.int 8), (.int 1)]) _
    refine XS.isub X90.here hx rfl (hb hby d5_108) rfl ?_
    rw [show ((8 : Int32) - (1 : Int32)) = (7 : Int32) from by decide]
    show GO p e below T90 (mkF m 109 (la2 a1 p2 p3 d4 p5 (7 : Int32) (0 : Int32)) [(.int 7), (.int 1)]) _
    refine XS.iand X90.here hx rfl (hb hby d5_109) rfl ?_
    rw [show ((1 : Int32) &&& (7 : Int32)) = (1 : Int32) from by decide]
    show GO p e below T90 (mkF m 110 (la2 a1 p2 p3 d4 p5 (7 : Int32) (0 : Int32)) [(.int 1)]) _
    refine XS.istore X90.here hx rfl (hb hby d5_110) rfl (l' := (la3 a1 p2 p3 d4 p5 (7 : Int32) (0 : Int32) (1 : Int32))) rfl ?_
    show GO p e below T90 (mkF m 112 (la3 a1 p2 p3 d4 p5 (7 : Int32) (0 : Int32) (1 : Int32)) []) _
    refine XS.aloadN X90.here hx rfl (hb hby d5_112) rfl rfl ?_
    show GO p e below T90 (mkF m 113 (la3 a1 p2 p3 d4 p5 (7 : Int32) (0 : Int32) (1 : Int32)) [(.ref a1)]) _
    refine st92 _ ?_
    show GO p e below T92 (mkF m 116 (la3 a1 p2 p3 d4 p5 (7 : Int32) (0 : Int32) (1 : Int32)) [(.ref t0)]) _
    refine XS.iload X92.here hx rfl (hb hby d5_116) rfl ?_
    show GO p e below T92 (mkF m 118 (la3 a1 p2 p3 d4 p5 (7 : Int32) (0 : Int32) (1 : Int32)) [(.int 1), (.ref t0)]) _
    refine XS.iloadN X92.here hx rfl (hb hby d5_118) rfl ?_
    show GO p e below T92 (mkF m 119 (la3 a1 p2 p3 d4 p5 (7 : Int32) (0 : Int32) (1 : Int32)) [(.int p2), (.int 1), (.ref t0)]) _
    refine st94 _ ?_
    show GO p e below T94 (mkF m 120 (la3 a1 p2 p3 d4 p5 (7 : Int32) (0 : Int32) (1 : Int32)) []) _
    refine XS.aloadN X94.here hx rfl (hb hby d5_120) rfl rfl ?_
    show GO p e below T94 (mkF m 121 (la3 a1 p2 p3 d4 p5 (7 : Int32) (0 : Int32) (1 : Int32)) [(.ref a1)]) _
    refine st96 _ ?_
    show GO p e below T96 (mkF m 124 (la3 a1 p2 p3 d4 p5 (7 : Int32) (0 : Int32) (1 : Int32)) [(.ref t1)]) _
    refine XS.iload X96.here hx rfl (hb hby d5_124) rfl ?_
    show GO p e below T96 (mkF m 126 (la3 a1 p2 p3 d4 p5 (7 : Int32) (0 : Int32) (1 : Int32)) [(.int 1), (.ref t1)]) _
    refine XS.iloadN X96.here hx rfl (hb hby d5_126) rfl ?_
    show GO p e below T96 (mkF m 127 (la3 a1 p2 p3 d4 p5 (7 : Int32) (0 : Int32) (1 : Int32)) [(.int p3), (.int 1), (.ref t1)]) _
    refine st99 _ ?_
    show GO p e below T99 (mkF m 128 (la3 a1 p2 p3 d4 p5 (7 : Int32) (0 : Int32) (1 : Int32)) []) _
    refine XS.aloadN X99.here hx rfl (hb hby d5_128) rfl rfl ?_
    show GO p e below T99 (mkF m 129 (la3 a1 p2 p3 d4 p5 (7 : Int32) (0 : Int32) (1 : Int32)) [(.ref a1)]) _
    refine st101 _ ?_
    show GO p e below T101 (mkF m 132 (la3 a1 p2 p3 d4 p5 (7 : Int32) (0 : Int32) (1 : Int32)) [(.ref t2)]) _
    refine XS.iload X101.here hx rfl (hb hby d5_132) rfl ?_
    show GO p e below T101 (mkF m 134 (la3 a1 p2 p3 d4 p5 (7 : Int32) (0 : Int32) (1 : Int32)) [(.int 1), (.ref t2)]) _
    refine XS.dloadN X101.here hx rfl (hb hby d5_134) rfl ?_
    show GO p e below T101 (mkF m 135 (la3 a1 p2 p3 d4 p5 (7 : Int32) (0 : Int32) (1 : Int32)) [(.double d4), (.int 1), (.ref t2)]) _
    refine st104 _ ?_
    show GO p e below T104 (mkF m 136 (la3 a1 p2 p3 d4 p5 (7 : Int32) (0 : Int32) (1 : Int32)) []) _
    refine XS.aloadN X104.here hx rfl (hb hby d5_136) rfl rfl ?_
    show GO p e below T104 (mkF m 137 (la3 a1 p2 p3 d4 p5 (7 : Int32) (0 : Int32) (1 : Int32)) [(.ref a1)]) _
    refine st106 _ ?_
    show GO p e below T106 (mkF m 140 (la3 a1 p2 p3 d4 p5 (7 : Int32) (0 : Int32) (1 : Int32)) [(.ref t3)]) _
    refine XS.iload X106.here hx rfl (hb hby d5_140) rfl ?_
    show GO p e below T106 (mkF m 142 (la3 a1 p2 p3 d4 p5 (7 : Int32) (0 : Int32) (1 : Int32)) [(.int 1), (.ref t3)]) _
    refine XS.iload X106.here hx rfl (hb hby d5_142) rfl ?_
    show GO p e below T106 (mkF m 144 (la3 a1 p2 p3 d4 p5 (7 : Int32) (0 : Int32) (1 : Int32)) [(.int p5), (.int 1), (.ref t3)]) _
    refine st109 _ ?_
    show GO p e below T109 (mkF m 145 (la3 a1 p2 p3 d4 p5 (7 : Int32) (0 : Int32) (1 : Int32)) []) _
    refine XS.aloadN X109.here hx rfl (hb hby d5_145) rfl rfl ?_
    show GO p e below T109 (mkF m 146 (la3 a1 p2 p3 d4 p5 (7 : Int32) (0 : Int32) (1 : Int32)) [(.ref a1)]) _
    refine XS.dup X109.here hx rfl (hb hby d5_146) rfl rfl ?_
    show GO p e below T109 (mkF m 147 (la3 a1 p2 p3 d4 p5 (7 : Int32) (0 : Int32) (1 : Int32)) [(.ref a1), (.ref a1)]) _
    refine st111 _ ?_
    show GO p e below T111 (mkF m 150 (la3 a1 p2 p3 d4 p5 (7 : Int32) (0 : Int32) (1 : Int32)) [(.int 1), (.ref a1)]) _
    refine XS.iconst X111.here hx rfl (hb hby d5_150) ?_
    show GO p e below T111 (mkF m 151 (la3 a1 p2 p3 d4 p5 (7 : Int32) (0 : Int32) (1 : Int32)) [(.int 1), (.int 1), (.ref a1)]) _
    refine XS.iadd X111.here hx rfl (hb hby d5_151) rfl ?_
    rw [show ((1 : Int32) + (1 : Int32)) = (2 : Int32) from by decide]
    show GO p e below T111 (mkF m 152 (la3 a1 p2 p3 d4 p5 (7 : Int32) (0 : Int32) (1 : Int32)) [(.int 2), (.ref a1)]) _
    refine st113 _ ?_
    show GO p e below T113 (mkF m 155 (la3 a1 p2 p3 d4 p5 (7 : Int32) (0 : Int32) (1 : Int32)) []) _
    refine XS.aloadN X113.here hx rfl (hb hby d5_155) rfl rfl ?_
    show GO p e below T113 (mkF m 156 (la3 a1 p2 p3 d4 p5 (7 : Int32) (0 : Int32) (1 : Int32)) [(.ref a1)]) _
    refine XS.dup X113.here hx rfl (hb hby d5_156) rfl rfl ?_
    show GO p e below T113 (mkF m 157 (la3 a1 p2 p3 d4 p5 (7 : Int32) (0 : Int32) (1 : Int32)) [(.ref a1), (.ref a1)]) _
    refine st115 _ ?_
    show GO p e below T115 (mkF m 160 (la3 a1 p2 p3 d4 p5 (7 : Int32) (0 : Int32) (1 : Int32)) [(.double c1), (.ref a1)]) _
    refine XS.dloadN X115.here hx rfl (hb hby d5_160) rfl ?_
    show GO p e below T115 (mkF m 161 (la3 a1 p2 p3 d4 p5 (7 : Int32) (0 : Int32) (1 : Int32)) [(.double d4), (.double c1), (.ref a1)]) _
    refine XS.daddS X115.here hx rfl (hb hby d5_161) rfl hn rfl ?_
    show GO p e below T115 (mkF m 162 (la3 a1 p2 p3 d4 p5 (7 : Int32) (0 : Int32) (1 : Int32)) [(.double (FP.dadd c1 d4)), (.ref a1)]) _
    refine st117 _ ?_
    show GO p e below T117 (mkF m 165 (la3 a1 p2 p3 d4 p5 (7 : Int32) (0 : Int32) (1 : Int32)) []) _
    exact X117.returnOut hx Bd.returns (hb hby d5_165) hr
  · show Qrm_add1 Z a1 p2 p3 d4 p5 c1 t0 k0 vA t1 k1 vL t2 k2 vD t3 k3 vR x7 h0 n0 _ T117.heap _
    rw [e117]
    exact ⟨rfl, N117, (((((((Keep.refl h0 [a1, t0, t1, t2, t3]).wr W94 (Or.inl (List.mem_of_getElem? (i := 1) rfl))).wr W99 (Or.inl (List.mem_of_getElem? (i := 2) rfl))).wr W104 (Or.inl (List.mem_of_getElem? (i := 3) rfl))).wr W109 (Or.inl (List.mem_of_getElem? (i := 4) rfl))).wr W113 (Or.inl (List.mem_of_getElem? (i := 0) rfl))).wr W117 (Or.inl (List.mem_of_getElem? (i := 0) rfl))), f118, f119, f120, f117, f121, f122, f123, f124, f125, f126, f127, f128⟩
def Qrm_add2 (Z : State) (a1 : Addr) (p2 : Int32) (p3 : Int32) (d4 : UInt64) (p5 : Int32) (c1 : UInt64) (t0 : Addr) (k0 : ClassId) (vA : List Value) (t1 : Addr) (k1 : ClassId) (vL : List Value) (t2 : Addr) (k2 : ClassId) (vD : List Value) (t3 : Addr) (k3 : ClassId) (vR : List Value) (x7 : Int32) (h0 : Heap) (n0 : Nat) (v : Option Value) (h : Heap) (L : List Loc) : Prop := v = none ∧ Fr n0 L ∧ Keep h0 h [a1, t0, t1, t2, t3] ∧ Exa Z h a1 kS0 ∧ Fld Z h a1 kS0 "head" "I" (.int 0) ∧ Fld Z h a1 kS0 "size" "I" (.int 3) ∧ Fld Z h a1 kS0 "content" "D" (.double (FP.dadd c1 d4)) ∧ Fld Z h a1 kS0 "agents" "[I" (.ref t0) ∧ Arv Z h t0 k0 .int (8 : Int32) (vA.set 2 (.int p2)) (.int 0) ∧ Fld Z h a1 kS0 "legs" "[I" (.ref t1) ∧ Arv Z h t1 k1 .int (8 : Int32) (vL.set 2 (.int p3)) (.int 0) ∧ Fld Z h a1 kS0 "amounts" "[D" (.ref t2) ∧ Arv Z h t2 k2 .double (8 : Int32) (vD.set 2 (.double d4)) (.double (0 : UInt64)) ∧ Fld Z h a1 kS0 "rears" "[Z" (.ref t3) ∧ Arv Z h t3 k3 .boolean (8 : Int32) (vR.set 2 (.int (nar .boolean p5))) (.int 0)
theorem ef_rm_add2 (m : MethodId) (x0 : Addr) (x1 : Int32) (x2 : Int32) (x3 : UInt64) (x4 : Int32) : entryFrame m #[(.ref x0), (.int x1), (.int x2), (.double x3), (.int x4)] 9 = mkF m 0 (la0 x0 x1 x2 x3 x4) [] := by first | rfl | (simp [entryFrame, mkF, argsToLocals, Value.category]; done)
set_option maxRecDepth 65536 in
set_option maxHeartbeats 40000000 in
theorem rm_add2 (l : Launch) (Z : State) (a0 : Array Value) (hw : ∀ d ∈ tables_1, d.before a0 Z = true) (ws : List Jvm.Cond) (a1 : Addr) (p2 : Int32) (p3 : Int32) (d4 : UInt64) (p5 : Int32) (c1 : UInt64) (t0 : Addr) (k0 : ClassId) (vA : List Value) (t1 : Addr) (k1 : ClassId) (vL : List Value) (t2 : Addr) (k2 : ClassId) (vD : List Value) (t3 : Addr) (k3 : ClassId) (vR : List Value) (x7 : Int32) (h0 : Heap) (n0 : Nat) (Z0 : n0 ≤ h0.size) (E1 : Exa Z h0 a1 kS0) (Fh : Fld Z h0 a1 kS0 "head" "I" (.int 0)) (Fs : Fld Z h0 a1 kS0 "size" "I" (.int 2)) (Fc : Fld Z h0 a1 kS0 "content" "D" (.double c1)) (F0 : Fld Z h0 a1 kS0 "agents" "[I" (.ref t0)) (V0 : Arv Z h0 t0 k0 .int (8 : Int32) vA (.int 0)) (F1 : Fld Z h0 a1 kS0 "legs" "[I" (.ref t1)) (V1 : Arv Z h0 t1 k1 .int (8 : Int32) vL (.int 0)) (F2 : Fld Z h0 a1 kS0 "amounts" "[D" (.ref t2)) (V2 : Arv Z h0 t2 k2 .double (8 : Int32) vD (.double (0 : UInt64))) (F3 : Fld Z h0 a1 kS0 "rears" "[Z" (.ref t3)) (V3 : Arv Z h0 t3 k3 .boolean (8 : Int32) vR (.int 0)) (len0 : vA.length = 8) (len1 : vL.length = 8) (len2 : vD.length = 8) (len3 : vR.length = 8) (o1 : LT.lt (α := Nat) a1 t0) (o2 : LT.lt (α := Nat) t0 t1) (o3 : LT.lt (α := Nat) t1 t2) (o4 : LT.lt (α := Nat) t2 t3) (g1 : n0 ≤ a1) (hn : Jvm.Free.Fl.NoNaN64 (FP.dadd c1 d4)) (hx7 : vA.getD ((1 : Int32)).toNatClampNeg (.int 0) = (.int x7)) (hd7 : ¬ (x7 = p2)) :
    MetFree l (⟨kS0, "add", "(IIDZ)V"⟩ : MethodName) (head1 (Jvm.Cond.code (⟨kS0, "add", "(IIDZ)V"⟩ : MethodName) prog_14_method_11_code 9 none :: ws) ({ frames := 0, cells := 0, slots := 0, locals := 0 } : Room)) (fun a U => a = #[(.ref a1), (.int p2), (.int p3), (.double d4), (.int p5)] ∧ Z.Warmed39 U.vm ∧ U.heap = h0) (fun _ _ _ _ _ => True) (fun _ U o U' => ∃ v L, o = .returned v ∧ Qrm_add2 Z a1 p2 p3 d4 p5 c1 t0 k0 vA t1 k1 vL t2 k2 vD t3 k3 vR x7 h0 n0 v U'.heap L ∧ FrameEnd U o U' L ({ frames := 0, cells := 0, slots := 0, locals := 0 } : Room).cells ({ frames := 0, cells := 0, slots := 0, locals := 0 } : Room).slots) := by
  refine MetFree.of_bodySF (plainFor_of_name pn_0) hisR ?_
  intro p e s m args below meth c s₁ Bd hml0 hP hK
  obtain ⟨rfl, hZ, hh⟩ := hP
  have hx := Bd.exec
  have hby := Bd.bytes
  have hml : c.maxLocals = 9 := hml0
  have hown : s.vm.findClass kS0 = some m.cls := findClass_of_methodNamed Bd.named
  have hnm := (name_of_methodNamed Bd.named Bd.method).1
  have X0 : Stand p l e ({ frames := 0, cells := 0, slots := 0, locals := 0 } : Room) s m #[(.ref a1), (.int p2), (.int p3), (.double d4), (.int p5)] below meth c s₁ [] 0 0 := Stand.of_body Bd
  have e0 : s₁.heap = h0 := by rw [← hh, Bd.state]; rfl
  have N0 := Fr.nil n0
  have pre0 : ∀ t, Steps p.tables e below (s₁.setTop (mkF m 0 (la0 a1 p2 p3 d4 p5) [])) t → Steps p.tables e below (s₁.setTop (entryFrame m #[(.ref a1), (.int p2), (.int p3), (.double d4), (.int p5)] 9)) t := fun t k => castTop (ef_rm_add2 m a1 p2 p3 d4 p5) k
  have lt_E1 := ltA E1.lt
  have lt_Fh := ltA Fh.lt
  have lt_Fs := ltA Fs.lt
  have lt_Fc := ltA Fc.lt
  have lt_F0 := ltA F0.lt
  have lt_V0 := ltA V0.lt
  have lt_F1 := ltA F1.lt
  have lt_V1 := ltA V1.lt
  have lt_F2 := ltA F2.lt
  have lt_V2 := ltA V2.lt
  have lt_F3 := ltA F3.lt
  have lt_V3 := ltA V3.lt
  obtain ⟨T129, X129, e129, st129⟩ := getF X0 hx hZ hown (host := "") (Or.inl (wd hw 15 rfl)) Via.refl e0 F0 (g := (mkF m 1 (la0 a1 p2 p3 d4 p5) [(.ref a1)])) rfl rfl (hb hby d5_1)
  obtain ⟨cl130, Ar130, -, S130, M130, -, -⟩ := id V0
  obtain ⟨T131, X131, e131, st131⟩ := getF X129 hx hZ hown (host := "") (Or.inl (wd hw 37 rfl)) Via.refl e129 Fh (g := (mkF m 10 (la1 a1 p2 p3 d4 p5 (7 : Int32)) [(.ref a1)])) rfl rfl (hb hby d5_10)
  obtain ⟨T132, X132, e132, st132⟩ := getF X131 hx hZ hown (host := "") (Or.inl (wd hw 30 rfl)) Via.refl e131 Fs (g := (mkF m 14 (la1 a1 p2 p3 d4 p5 (7 : Int32)) [(.ref a1), (.int 0)])) rfl rfl (hb hby d5_14)
  obtain ⟨T133, X133, e133, st133⟩ := getF X132 hx hZ hown (host := "") (Or.inl (wd hw 30 rfl)) Via.refl e132 Fs (g := (mkF m 26 (la2 a1 p2 p3 d4 p5 (7 : Int32) (1 : Int32)) [(.ref a1)])) rfl rfl (hb hby d5_26)
  obtain ⟨T134, X134, e134, st134⟩ := getF X133 hx hZ hown (host := "") (Or.inl (wd hw 15 rfl)) Via.refl e133 F0 (g := (mkF m 33 (la2 a1 p2 p3 d4 p5 (7 : Int32) (1 : Int32)) [(.ref a1)])) rfl rfl (hb hby d5_33)
  obtain ⟨cl135, Ar135, q135, S135, M135, H135, G135⟩ := id V0
  have hin135 : ¬ ((1 : Int32) < 0 ∨ cl135.slots.size ≤ ((1 : Int32)).toNatClampNeg) := inb_of S135 ⟨by decide, by decide⟩
  have hat135 : cl135.slots[((1 : Int32)).toNatClampNeg]? = some (.int x7) := Has.at H135 hin135 hx7
  obtain ⟨T136, X136, e136, st136⟩ := getF X134 hx hZ hown (host := "") (Or.inl (wd hw 30 rfl)) Via.refl e134 Fs (g := (mkF m 78 (la2 a1 p2 p3 d4 p5 (7 : Int32) (1 : Int32)) [(.ref a1)])) rfl rfl (hb hby d5_78)
  obtain ⟨T137, X137, e137, st137⟩ := getF X136 hx hZ hown (host := "") (Or.inl (wd hw 15 rfl)) Via.refl e136 F0 (g := (mkF m 82 (la2 a1 p2 p3 d4 p5 (7 : Int32) (1 : Int32)) [(.ref a1), (.int 2)])) rfl rfl (hb hby d5_82)
  obtain ⟨cl138, Ar138, -, S138, M138, -, -⟩ := id V0
  obtain ⟨T139, X139, e139, st139⟩ := getF X137 hx hZ hown (host := "") (Or.inl (wd hw 37 rfl)) Via.refl e137 Fh (g := (mkF m 94 (la2 a1 p2 p3 d4 p5 (7 : Int32) (1 : Int32)) [(.ref a1)])) rfl rfl (hb hby d5_94)
  obtain ⟨T140, X140, e140, st140⟩ := getF X139 hx hZ hown (host := "") (Or.inl (wd hw 30 rfl)) Via.refl e139 Fs (g := (mkF m 98 (la2 a1 p2 p3 d4 p5 (7 : Int32) (1 : Int32)) [(.ref a1), (.int 0)])) rfl rfl (hb hby d5_98)
  obtain ⟨T141, X141, e141, st141⟩ := getF X140 hx hZ hown (host := "") (Or.inl (wd hw 15 rfl)) Via.refl e140 F0 (g := (mkF m 103 (la2 a1 p2 p3 d4 p5 (7 : Int32) (1 : Int32)) [(.ref a1), (.int 2)])) rfl rfl (hb hby d5_103)
  obtain ⟨cl142, Ar142, -, S142, M142, -, -⟩ := id V0
  obtain ⟨T143, X143, e143, st143⟩ := getF X141 hx hZ hown (host := "") (Or.inl (wd hw 15 rfl)) Via.refl e141 F0 (g := (mkF m 113 (la3 a1 p2 p3 d4 p5 (7 : Int32) (1 : Int32) (2 : Int32)) [(.ref a1)])) rfl rfl (hb hby d5_113)
  obtain ⟨cl144, Ar144, q144, S144, M144, H144, G144⟩ := id V0
  have hin144 : ¬ ((2 : Int32) < 0 ∨ cl144.slots.size ≤ ((2 : Int32)).toNatClampNeg) := inb_of S144 ⟨by decide, by decide⟩
  obtain ⟨T145, h145, X145, e145, W145, st145⟩ := stI X143 hx hZ e143 Ar144 (j := (2 : Int32)) hin144 (g := (mkF m 119 (la3 a1 p2 p3 d4 p5 (7 : Int32) (1 : Int32) (2 : Int32)) [(.int p2), (.int 2), (.ref t0)])) rfl rfl (hb hby d5_119)
  have N145 := Fr.snoc X145 N0 (by omega : n0 ≤ t0)
  have sz145 : h0.size ≤ h145.size := Nat.le_of_eq W145.size.symm
  have V145 : Arv Z h145 t0 k0 .int (8 : Int32) (vA.set 2 (.int p2)) (.int 0) := Arv.set Ar144 q144 S144 M144 H144 G144 rfl W145 2 rfl (by omega)
  have f146 : Fld Z h145 a1 kS0 "legs" "[I" (.ref t1) := (F1.other W145 (Or.inl (neN (by omega))))
  obtain ⟨T147, X147, e147, st147⟩ := getF X145 hx hZ hown (host := "") (Or.inl (wd hw 17 rfl)) Via.refl e145 f146 (g := (mkF m 121 (la3 a1 p2 p3 d4 p5 (7 : Int32) (1 : Int32) (2 : Int32)) [(.ref a1)])) rfl rfl (hb hby d5_121)
  have f148 : Arv Z h145 t1 k1 .int (8 : Int32) vL (.int 0) := (V1.other W145 (neN (by omega)))
  obtain ⟨cl149, Ar149, q149, S149, M149, H149, G149⟩ := id f148
  have hin149 : ¬ ((2 : Int32) < 0 ∨ cl149.slots.size ≤ ((2 : Int32)).toNatClampNeg) := inb_of S149 ⟨by decide, by decide⟩
  obtain ⟨T150, h150, X150, e150, W150, st150⟩ := stI X147 hx hZ e147 Ar149 (j := (2 : Int32)) hin149 (g := (mkF m 127 (la3 a1 p2 p3 d4 p5 (7 : Int32) (1 : Int32) (2 : Int32)) [(.int p3), (.int 2), (.ref t1)])) rfl rfl (hb hby d5_127)
  have N150 := Fr.snoc X150 N145 (by omega : n0 ≤ t1)
  have sz150 : h145.size ≤ h150.size := Nat.le_of_eq W150.size.symm
  have V150 : Arv Z h150 t1 k1 .int (8 : Int32) (vL.set 2 (.int p3)) (.int 0) := Arv.set Ar149 q149 S149 M149 H149 G149 rfl W150 2 rfl (by omega)
  have f151 : Fld Z h150 a1 kS0 "amounts" "[D" (.ref t2) := ((F2.other W145 (Or.inl (neN (by omega)))).other W150 (Or.inl (neN (by omega))))
  obtain ⟨T152, X152, e152, st152⟩ := getF X150 hx hZ hown (host := "") (Or.inl (wd hw 20 rfl)) Via.refl e150 f151 (g := (mkF m 129 (la3 a1 p2 p3 d4 p5 (7 : Int32) (1 : Int32) (2 : Int32)) [(.ref a1)])) rfl rfl (hb hby d5_129)
  have f153 : Arv Z h150 t2 k2 .double (8 : Int32) vD (.double (0 : UInt64)) := ((V2.other W145 (neN (by omega))).other W150 (neN (by omega)))
  obtain ⟨cl154, Ar154, q154, S154, M154, H154, G154⟩ := id f153
  have hin154 : ¬ ((2 : Int32) < 0 ∨ cl154.slots.size ≤ ((2 : Int32)).toNatClampNeg) := inb_of S154 ⟨by decide, by decide⟩
  obtain ⟨T155, h155, X155, e155, W155, st155⟩ := stD X152 hx hZ e152 Ar154 (j := (2 : Int32)) hin154 (g := (mkF m 135 (la3 a1 p2 p3 d4 p5 (7 : Int32) (1 : Int32) (2 : Int32)) [(.double d4), (.int 2), (.ref t2)])) rfl rfl (hb hby d5_135)
  have N155 := Fr.snoc X155 N150 (by omega : n0 ≤ t2)
  have sz155 : h150.size ≤ h155.size := Nat.le_of_eq W155.size.symm
  have V155 : Arv Z h155 t2 k2 .double (8 : Int32) (vD.set 2 (.double d4)) (.double (0 : UInt64)) := Arv.set Ar154 q154 S154 M154 H154 G154 rfl W155 2 rfl (by omega)
  have f156 : Fld Z h155 a1 kS0 "rears" "[Z" (.ref t3) := (((F3.other W145 (Or.inl (neN (by omega)))).other W150 (Or.inl (neN (by omega)))).other W155 (Or.inl (neN (by omega))))
  obtain ⟨T157, X157, e157, st157⟩ := getF X155 hx hZ hown (host := "") (Or.inl (wd hw 23 rfl)) Via.refl e155 f156 (g := (mkF m 137 (la3 a1 p2 p3 d4 p5 (7 : Int32) (1 : Int32) (2 : Int32)) [(.ref a1)])) rfl rfl (hb hby d5_137)
  have f158 : Arv Z h155 t3 k3 .boolean (8 : Int32) vR (.int 0) := (((V3.other W145 (neN (by omega))).other W150 (neN (by omega))).other W155 (neN (by omega)))
  obtain ⟨cl159, Ar159, q159, S159, M159, H159, G159⟩ := id f158
  have hin159 : ¬ ((2 : Int32) < 0 ∨ cl159.slots.size ≤ ((2 : Int32)).toNatClampNeg) := inb_of S159 ⟨by decide, by decide⟩
  obtain ⟨T160, h160, X160, e160, W160, st160⟩ := stZ X157 hx hZ e157 Ar159 (j := (2 : Int32)) hin159 (g := (mkF m 144 (la3 a1 p2 p3 d4 p5 (7 : Int32) (1 : Int32) (2 : Int32)) [(.int p5), (.int 2), (.ref t3)])) rfl rfl (hb hby d5_144)
  have N160 := Fr.snoc X160 N155 (by omega : n0 ≤ t3)
  have sz160 : h155.size ≤ h160.size := Nat.le_of_eq W160.size.symm
  have V160 : Arv Z h160 t3 k3 .boolean (8 : Int32) (vR.set 2 (.int (nar .boolean p5))) (.int 0) := Arv.set Ar159 q159 S159 M159 H159 G159 (fits_nar_bool _) W160 2 rfl (by omega)
  have f161 : Fld Z h160 a1 kS0 "size" "I" (.int 2) := ((((Fs.other W145 (Or.inl (neN (by omega)))).other W150 (Or.inl (neN (by omega)))).other W155 (Or.inl (neN (by omega)))).other W160 (Or.inl (neN (by omega))))
  obtain ⟨T162, X162, e162, st162⟩ := getF X160 hx hZ hown (host := "") (Or.inl (wd hw 30 rfl)) Via.refl e160 f161 (g := (mkF m 147 (la3 a1 p2 p3 d4 p5 (7 : Int32) (1 : Int32) (2 : Int32)) [(.ref a1), (.ref a1)])) rfl rfl (hb hby d5_147)
  have f163 : Exa Z h160 a1 kS0 := ((((E1.wr W145).wr W150).wr W155).wr W160)
  obtain ⟨T164, h164, X164, e164, W164, st164⟩ := putF X162 hx hZ hown (host := "") (Or.inl (wd hw 30 rfl)) Via.refl e162 f161 f163 (Or.inl (wd hw 31 rfl)) (wd hw 6 rfl) (ty := .int) (by decide) rfl rfl (g := (mkF m 152 (la3 a1 p2 p3 d4 p5 (7 : Int32) (1 : Int32) (2 : Int32)) [(.int 3), (.ref a1)])) rfl rfl (hb hby d5_152)
  have N164 := Fr.snoc X164 N160 (by omega : n0 ≤ a1)
  have sz164 : h160.size ≤ h164.size := Nat.le_of_eq W164.size.symm
  have f164 : Fld Z h164 a1 kS0 "size" "I" (.int 3) := f161.same W164
  have f165 : Fld Z h164 a1 kS0 "content" "D" (.double c1) := (((((Fc.other W145 (Or.inl (neN (by omega)))).other W150 (Or.inl (neN (by omega)))).other W155 (Or.inl (neN (by omega)))).other W160 (Or.inl (neN (by omega)))).other W164 (Or.inr (slot_ne (Or.inl (wd hw 40 rfl)) (Or.inl (wd hw 31 rfl)) (by decide) (t := .double) (t' := .int) (by decide) (by decide))))
  obtain ⟨T166, X166, e166, st166⟩ := getF X164 hx hZ hown (host := "") (Or.inl (wd hw 39 rfl)) Via.refl e164 f165 (g := (mkF m 157 (la3 a1 p2 p3 d4 p5 (7 : Int32) (1 : Int32) (2 : Int32)) [(.ref a1), (.ref a1)])) rfl rfl (hb hby d5_157)
  have f167 : Exa Z h164 a1 kS0 := (f163.wr W164)
  obtain ⟨T168, h168, X168, e168, W168, st168⟩ := putF X166 hx hZ hown (host := "") (Or.inl (wd hw 39 rfl)) Via.refl e166 f165 f167 (Or.inl (wd hw 40 rfl)) (wd hw 6 rfl) (ty := .double) (by decide) rfl rfl (g := (mkF m 162 (la3 a1 p2 p3 d4 p5 (7 : Int32) (1 : Int32) (2 : Int32)) [(.double (FP.dadd c1 d4)), (.ref a1)])) rfl rfl (hb hby d5_162)
  have N168 := Fr.snoc X168 N164 (by omega : n0 ≤ a1)
  have sz168 : h164.size ≤ h168.size := Nat.le_of_eq W168.size.symm
  have f168 : Fld Z h168 a1 kS0 "content" "D" (.double (FP.dadd c1 d4)) := f165.same W168
  have f169 : Exa Z h168 a1 kS0 := (f167.wr W168)
  have f170 : Fld Z h168 a1 kS0 "head" "I" (.int 0) := ((((((Fh.other W145 (Or.inl (neN (by omega)))).other W150 (Or.inl (neN (by omega)))).other W155 (Or.inl (neN (by omega)))).other W160 (Or.inl (neN (by omega)))).other W164 (Or.inr (slot_ne (Or.inl (wd hw 38 rfl)) (Or.inl (wd hw 31 rfl)) (by decide) (t := .int) (t' := .int) (by decide) (by decide)))).other W168 (Or.inr (slot_ne (Or.inl (wd hw 38 rfl)) (Or.inl (wd hw 40 rfl)) (by decide) (t := .int) (t' := .double) (by decide) (by decide))))
  have f171 : Fld Z h168 a1 kS0 "size" "I" (.int 3) := (f164.other W168 (Or.inr (slot_ne (Or.inl (wd hw 31 rfl)) (Or.inl (wd hw 40 rfl)) (by decide) (t := .int) (t' := .double) (by decide) (by decide))))
  have f172 : Fld Z h168 a1 kS0 "agents" "[I" (.ref t0) := ((((((F0.other W145 (Or.inl (neN (by omega)))).other W150 (Or.inl (neN (by omega)))).other W155 (Or.inl (neN (by omega)))).other W160 (Or.inl (neN (by omega)))).other W164 (Or.inr (slot_ne (Or.inl (wd hw 16 rfl)) (Or.inl (wd hw 31 rfl)) (by decide) (t := (.array .int)) (t' := .int) (by decide) (by decide)))).other W168 (Or.inr (slot_ne (Or.inl (wd hw 16 rfl)) (Or.inl (wd hw 40 rfl)) (by decide) (t := (.array .int)) (t' := .double) (by decide) (by decide))))
  have f173 : Arv Z h168 t0 k0 .int (8 : Int32) (vA.set 2 (.int p2)) (.int 0) := (((((V145.other W150 (neN (by omega))).other W155 (neN (by omega))).other W160 (neN (by omega))).other W164 (neN (by omega))).other W168 (neN (by omega)))
  have f174 : Fld Z h168 a1 kS0 "legs" "[I" (.ref t1) := (((((f146.other W150 (Or.inl (neN (by omega)))).other W155 (Or.inl (neN (by omega)))).other W160 (Or.inl (neN (by omega)))).other W164 (Or.inr (slot_ne (Or.inl (wd hw 18 rfl)) (Or.inl (wd hw 31 rfl)) (by decide) (t := (.array .int)) (t' := .int) (by decide) (by decide)))).other W168 (Or.inr (slot_ne (Or.inl (wd hw 18 rfl)) (Or.inl (wd hw 40 rfl)) (by decide) (t := (.array .int)) (t' := .double) (by decide) (by decide))))
  have f175 : Arv Z h168 t1 k1 .int (8 : Int32) (vL.set 2 (.int p3)) (.int 0) := ((((V150.other W155 (neN (by omega))).other W160 (neN (by omega))).other W164 (neN (by omega))).other W168 (neN (by omega)))
  have f176 : Fld Z h168 a1 kS0 "amounts" "[D" (.ref t2) := ((((f151.other W155 (Or.inl (neN (by omega)))).other W160 (Or.inl (neN (by omega)))).other W164 (Or.inr (slot_ne (Or.inl (wd hw 21 rfl)) (Or.inl (wd hw 31 rfl)) (by decide) (t := (.array .double)) (t' := .int) (by decide) (by decide)))).other W168 (Or.inr (slot_ne (Or.inl (wd hw 21 rfl)) (Or.inl (wd hw 40 rfl)) (by decide) (t := (.array .double)) (t' := .double) (by decide) (by decide))))
  have f177 : Arv Z h168 t2 k2 .double (8 : Int32) (vD.set 2 (.double d4)) (.double (0 : UInt64)) := (((V155.other W160 (neN (by omega))).other W164 (neN (by omega))).other W168 (neN (by omega)))
  have f178 : Fld Z h168 a1 kS0 "rears" "[Z" (.ref t3) := (((f156.other W160 (Or.inl (neN (by omega)))).other W164 (Or.inr (slot_ne (Or.inl (wd hw 24 rfl)) (Or.inl (wd hw 31 rfl)) (by decide) (t := (.array .boolean)) (t' := .int) (by decide) (by decide)))).other W168 (Or.inr (slot_ne (Or.inl (wd hw 24 rfl)) (Or.inl (wd hw 40 rfl)) (by decide) (t := (.array .boolean)) (t' := .double) (by decide) (by decide))))
  have f179 : Arv Z h168 t3 k3 .boolean (8 : Int32) (vR.set 2 (.int (nar .boolean p5))) (.int 0) := ((V160.other W164 (neN (by omega))).other W168 (neN (by omega)))
  obtain ⟨fs, hr, hrun, hended, hW, hsame⟩ := X168.leave (v := none) (fun _ => rfl)
  refine ⟨_, _, pre0 _ ?_, hrun, hended, _, _, rfl, ?_, ⟨_, rfl⟩, hW, hsame.mono (by decide) (by decide)⟩
  · show GO p e below s₁ (mkF m 0 (la0 a1 p2 p3 d4 p5) []) _
    refine XS.aloadN X0.here hx rfl (hb hby d5_0) rfl rfl ?_
    show GO p e below s₁ (mkF m 1 (la0 a1 p2 p3 d4 p5) [(.ref a1)]) _
    refine st129 _ ?_
    show GO p e below T129 (mkF m 4 (la0 a1 p2 p3 d4 p5) [(.ref t0)]) _
    refine X129.arraylength hx (by rw [e129]; exact Ar130.1) (State.isArrayOf_alike hZ.alike Ar130.2.1) (g := (mkF m 4 (la0 a1 p2 p3 d4 p5) [(.ref t0)])) rfl rfl (hb hby d5_4) _ ?_
    rw [len_of S130 M130]
    show GO p e below T129 (mkF m 5 (la0 a1 p2 p3 d4 p5) [(.int 8)]) _
    refine XS.iconst X129.here hx rfl (hb hby d5_5) ?_
    show GO p e below T129 (mkF m 6 (la0 a1 p2 p3 d4 p5) [(.int 1), (.int 8)]) _
    refine XS.isub X129.here hx rfl (hb hby d5_6) rfl ?_
    rw [show ((8 : Int32) - (1 : Int32)) = (7 : Int32) from by decide]
    show GO p e below T129 (mkF m 7 (la0 a1 p2 p3 d4 p5) [(.int 7)]) _
    refine XS.istore X129.here hx rfl (hb hby d5_7) rfl (l' := (la1 a1 p2 p3 d4 p5 (7 : Int32))) rfl ?_
    show GO p e below T129 (mkF m 9 (la1 a1 p2 p3 d4 p5 (7 : Int32)) []) _
    refine XS.aloadN X129.here hx rfl (hb hby d5_9) rfl rfl ?_
    show GO p e below T129 (mkF m 10 (la1 a1 p2 p3 d4 p5 (7 : Int32)) [(.ref a1)]) _
    refine st131 _ ?_
    show GO p e below T131 (mkF m 13 (la1 a1 p2 p3 d4 p5 (7 : Int32)) [(.int 0)]) _
    refine XS.aloadN X131.here hx rfl (hb hby d5_13) rfl rfl ?_
    show GO p e below T131 (mkF m 14 (la1 a1 p2 p3 d4 p5 (7 : Int32)) [(.ref a1), (.int 0)]) _
    refine st132 _ ?_
    show GO p e below T132 (mkF m 17 (la1 a1 p2 p3 d4 p5 (7 : Int32)) [(.int 2), (.int 0)]) _
    refine XS.iadd X132.here hx rfl (hb hby d5_17) rfl ?_
    rw [show ((0 : Int32) + (2 : Int32)) = (2 : Int32) from by decide]
    show GO p e below T132 (mkF m 18 (la1 a1 p2 p3 d4 p5 (7 : Int32)) [(.int 2)]) _
    refine XS.iconst X132.here hx rfl (hb hby d5_18) ?_
    show GO p e below T132 (mkF m 19 (la1 a1 p2 p3 d4 p5 (7 : Int32)) [(.int 1), (.int 2)]) _
    refine XS.isub X132.here hx rfl (hb hby d5_19) rfl ?_
    rw [show ((2 : Int32) - (1 : Int32)) = (1 : Int32) from by decide]
    show GO p e below T132 (mkF m 20 (la1 a1 p2 p3 d4 p5 (7 : Int32)) [(.int 1)]) _
    refine XS.iload X132.here hx rfl (hb hby d5_20) rfl ?_
    show GO p e below T132 (mkF m 22 (la1 a1 p2 p3 d4 p5 (7 : Int32)) [(.int 7), (.int 1)]) _
    refine XS.iand X132.here hx rfl (hb hby d5_22) rfl ?_
    rw [show ((1 : Int32) &&& (7 : Int32)) = (1 : Int32) from by decide]
    show GO p e below T132 (mkF m 23 (la1 a1 p2 p3 d4 p5 (7 : Int32)) [(.int 1)]) _
    refine XS.istore X132.here hx rfl (hb hby d5_23) rfl (l' := (la2 a1 p2 p3 d4 p5 (7 : Int32) (1 : Int32))) rfl ?_
    show GO p e below T132 (mkF m 25 (la2 a1 p2 p3 d4 p5 (7 : Int32) (1 : Int32)) []) _
    refine XS.aloadN X132.here hx rfl (hb hby d5_25) rfl rfl ?_
    show GO p e below T132 (mkF m 26 (la2 a1 p2 p3 d4 p5 (7 : Int32) (1 : Int32)) [(.ref a1)]) _
    refine st133 _ ?_
    show GO p e below T133 (mkF m 29 (la2 a1 p2 p3 d4 p5 (7 : Int32) (1 : Int32)) [(.int 2)]) _
    refine XS.ifNo X133.here hx rfl (hb hby d5_29) rfl ((if0 _ _).trans (tlt ((by decide) : (0 : Int32) < (2 : Int32))).2.2.2) ?_
    show GO p e below T133 (mkF m 32 (la2 a1 p2 p3 d4 p5 (7 : Int32) (1 : Int32)) []) _
    refine XS.aloadN X133.here hx rfl (hb hby d5_32) rfl rfl ?_
    show GO p e below T133 (mkF m 33 (la2 a1 p2 p3 d4 p5 (7 : Int32) (1 : Int32)) [(.ref a1)]) _
    refine st134 _ ?_
    show GO p e below T134 (mkF m 36 (la2 a1 p2 p3 d4 p5 (7 : Int32) (1 : Int32)) [(.ref t0)]) _
    refine XS.iload X134.here hx rfl (hb hby d5_36) rfl ?_
    show GO p e below T134 (mkF m 38 (la2 a1 p2 p3 d4 p5 (7 : Int32) (1 : Int32)) [(.int 1), (.ref t0)]) _
    refine X134.iaload hx (j := (1 : Int32)) (v := (.int x7)) (by rw [e134]; exact Ar135.1) (State.isArrayOf_alike hZ.alike Ar135.2.1) Ar135.2.2 hin135 hat135 (g := (mkF m 38 (la2 a1 p2 p3 d4 p5 (7 : Int32) (1 : Int32)) [(.int 1), (.ref t0)])) rfl rfl (hb hby d5_38) _ ?_
    show GO p e below T134 (mkF m 39 (la2 a1 p2 p3 d4 p5 (7 : Int32) (1 : Int32)) [(.int x7)]) _
    refine XS.iloadN X134.here hx rfl (hb hby d5_39) rfl ?_
    show GO p e below T134 (mkF m 40 (la2 a1 p2 p3 d4 p5 (7 : Int32) (1 : Int32)) [(.int p2), (.int x7)]) _
    refine XS.icmpYes X134.here hx rfl (pc0 := 40) (pc' := 77) rfl (hb hby d5_40) rfl (feq (hd7 : ¬ (x7 = p2))).2 (by decide) (by decide) ?_
    show GO p e below T134 (mkF m 77 (la2 a1 p2 p3 d4 p5 (7 : Int32) (1 : Int32)) []) _
    refine XS.aloadN X134.here hx rfl (hb hby d5_77) rfl rfl ?_
    show GO p e below T134 (mkF m 78 (la2 a1 p2 p3 d4 p5 (7 : Int32) (1 : Int32)) [(.ref a1)]) _
    refine st136 _ ?_
    show GO p e below T136 (mkF m 81 (la2 a1 p2 p3 d4 p5 (7 : Int32) (1 : Int32)) [(.int 2)]) _
    refine XS.aloadN X136.here hx rfl (hb hby d5_81) rfl rfl ?_
    show GO p e below T136 (mkF m 82 (la2 a1 p2 p3 d4 p5 (7 : Int32) (1 : Int32)) [(.ref a1), (.int 2)]) _
    refine st137 _ ?_
    show GO p e below T137 (mkF m 85 (la2 a1 p2 p3 d4 p5 (7 : Int32) (1 : Int32)) [(.ref t0), (.int 2)]) _
    refine X137.arraylength hx (by rw [e137]; exact Ar138.1) (State.isArrayOf_alike hZ.alike Ar138.2.1) (g := (mkF m 85 (la2 a1 p2 p3 d4 p5 (7 : Int32) (1 : Int32)) [(.ref t0), (.int 2)])) rfl rfl (hb hby d5_85) _ ?_
    rw [len_of S138 M138]
    show GO p e below T137 (mkF m 86 (la2 a1 p2 p3 d4 p5 (7 : Int32) (1 : Int32)) [(.int 8), (.int 2)]) _
    refine XS.icmpYes X137.here hx rfl (pc0 := 86) (pc' := 93) rfl (hb hby d5_86) rfl (feq ((by decide) : ¬ ((2 : Int32) = (8 : Int32)))).2 (by decide) (by decide) ?_
    show GO p e below T137 (mkF m 93 (la2 a1 p2 p3 d4 p5 (7 : Int32) (1 : Int32)) []) _
    refine XS.aloadN X137.here hx rfl (hb hby d5_93) rfl rfl ?_
    show GO p e below T137 (mkF m 94 (la2 a1 p2 p3 d4 p5 (7 : Int32) (1 : Int32)) [(.ref a1)]) _
    refine st139 _ ?_
    show GO p e below T139 (mkF m 97 (la2 a1 p2 p3 d4 p5 (7 : Int32) (1 : Int32)) [(.int 0)]) _
    refine XS.aloadN X139.here hx rfl (hb hby d5_97) rfl rfl ?_
    show GO p e below T139 (mkF m 98 (la2 a1 p2 p3 d4 p5 (7 : Int32) (1 : Int32)) [(.ref a1), (.int 0)]) _
    refine st140 _ ?_
    show GO p e below T140 (mkF m 101 (la2 a1 p2 p3 d4 p5 (7 : Int32) (1 : Int32)) [(.int 2), (.int 0)]) _
    refine XS.iadd X140.here hx rfl (hb hby d5_101) rfl ?_
    rw [show ((0 : Int32) + (2 : Int32)) = (2 : Int32) from by decide]
    show GO p e below T140 (mkF m 102 (la2 a1 p2 p3 d4 p5 (7 : Int32) (1 : Int32)) [(.int 2)]) _
    refine XS.aloadN X140.here hx rfl (hb hby d5_102) rfl rfl ?_
    show GO p e below T140 (mkF m 103 (la2 a1 p2 p3 d4 p5 (7 : Int32) (1 : Int32)) [(.ref a1), (.int 2)]) _
    refine st141 _ ?_
    show GO p e below T141 (mkF m 106 (la2 a1 p2 p3 d4 p5 (7 : Int32) (1 : Int32)) [(.ref t0), (.int 2)]) _
    refine X141.arraylength hx (by rw [e141]; exact Ar142.1) (State.isArrayOf_alike hZ.alike Ar142.2.1) (g := (mkF m 106 (la2 a1 p2 p3 d4 p5 (7 : Int32) (1 : Int32)) [(.ref t0), (.int 2)])) rfl rfl (hb hby d5_106) _ ?_
    rw [len_of S142 M142]
    show GO p e below T141 (mkF m 107 (la2 a1 p2 p3 d4 p5 (7 : Int32) (1 : Int32)) [(.int 8), (.int 2)]) _
    refine XS.iconst X141.here hx rfl (hb hby d5_107) ?_
    show GO p e below T141 (mkF m 108 (la2 a1 p2 p3 d4 p5 (7 : Int32) (1 : Int32)) [(.int 1), (.int 8), (.int 2)]) _
    refine XS.isub X141.here hx rfl (hb hby d5_108) rfl ?_
    rw [show ((8 : Int32) - (1 : Int32)) = (7 : Int32) from by decide]
    show GO p e below T141 (mkF m 109 (la2 a1 p2 p3 d4 p5 (7 : Int32) (1 : Int32)) [(.int 7), (.int 2)]) _
    refine XS.iand X141.here hx rfl (hb hby d5_109) rfl ?_
    rw [show ((2 : Int32) &&& (7 : Int32)) = (2 : Int32) from by decide]
    show GO p e below T141 (mkF m 110 (la2 a1 p2 p3 d4 p5 (7 : Int32) (1 : Int32)) [(.int 2)]) _
    refine XS.istore X141.here hx rfl (hb hby d5_110) rfl (l' := (la3 a1 p2 p3 d4 p5 (7 : Int32) (1 : Int32) (2 : Int32))) rfl ?_
    show GO p e below T141 (mkF m 112 (la3 a1 p2 p3 d4 p5 (7 : Int32) (1 : Int32) (2 : Int32)) []) _
    refine XS.aloadN X141.here hx rfl (hb hby d5_112) rfl rfl ?_
    show GO p e below T141 (mkF m 113 (la3 a1 p2 p3 d4 p5 (7 : Int32) (1 : Int32) (2 : Int32)) [(.ref a1)]) _
    refine st143 _ ?_
    show GO p e below T143 (mkF m 116 (la3 a1 p2 p3 d4 p5 (7 : Int32) (1 : Int32) (2 : Int32)) [(.ref t0)]) _
    refine XS.iload X143.here hx rfl (hb hby d5_116) rfl ?_
    show GO p e below T143 (mkF m 118 (la3 a1 p2 p3 d4 p5 (7 : Int32) (1 : Int32) (2 : Int32)) [(.int 2), (.ref t0)]) _
    refine XS.iloadN X143.here hx rfl (hb hby d5_118) rfl ?_
    show GO p e below T143 (mkF m 119 (la3 a1 p2 p3 d4 p5 (7 : Int32) (1 : Int32) (2 : Int32)) [(.int p2), (.int 2), (.ref t0)]) _
    refine st145 _ ?_
    show GO p e below T145 (mkF m 120 (la3 a1 p2 p3 d4 p5 (7 : Int32) (1 : Int32) (2 : Int32)) []) _
    refine XS.aloadN X145.here hx rfl (hb hby d5_120) rfl rfl ?_
    show GO p e below T145 (mkF m 121 (la3 a1 p2 p3 d4 p5 (7 : Int32) (1 : Int32) (2 : Int32)) [(.ref a1)]) _
    refine st147 _ ?_
    show GO p e below T147 (mkF m 124 (la3 a1 p2 p3 d4 p5 (7 : Int32) (1 : Int32) (2 : Int32)) [(.ref t1)]) _
    refine XS.iload X147.here hx rfl (hb hby d5_124) rfl ?_
    show GO p e below T147 (mkF m 126 (la3 a1 p2 p3 d4 p5 (7 : Int32) (1 : Int32) (2 : Int32)) [(.int 2), (.ref t1)]) _
    refine XS.iloadN X147.here hx rfl (hb hby d5_126) rfl ?_
    show GO p e below T147 (mkF m 127 (la3 a1 p2 p3 d4 p5 (7 : Int32) (1 : Int32) (2 : Int32)) [(.int p3), (.int 2), (.ref t1)]) _
    refine st150 _ ?_
    show GO p e below T150 (mkF m 128 (la3 a1 p2 p3 d4 p5 (7 : Int32) (1 : Int32) (2 : Int32)) []) _
    refine XS.aloadN X150.here hx rfl (hb hby d5_128) rfl rfl ?_
    show GO p e below T150 (mkF m 129 (la3 a1 p2 p3 d4 p5 (7 : Int32) (1 : Int32) (2 : Int32)) [(.ref a1)]) _
    refine st152 _ ?_
    show GO p e below T152 (mkF m 132 (la3 a1 p2 p3 d4 p5 (7 : Int32) (1 : Int32) (2 : Int32)) [(.ref t2)]) _
    refine XS.iload X152.here hx rfl (hb hby d5_132) rfl ?_
    show GO p e below T152 (mkF m 134 (la3 a1 p2 p3 d4 p5 (7 : Int32) (1 : Int32) (2 : Int32)) [(.int 2), (.ref t2)]) _
    refine XS.dloadN X152.here hx rfl (hb hby d5_134) rfl ?_
    show GO p e below T152 (mkF m 135 (la3 a1 p2 p3 d4 p5 (7 : Int32) (1 : Int32) (2 : Int32)) [(.double d4), (.int 2), (.ref t2)]) _
    refine st155 _ ?_
    show GO p e below T155 (mkF m 136 (la3 a1 p2 p3 d4 p5 (7 : Int32) (1 : Int32) (2 : Int32)) []) _
    refine XS.aloadN X155.here hx rfl (hb hby d5_136) rfl rfl ?_
    show GO p e below T155 (mkF m 137 (la3 a1 p2 p3 d4 p5 (7 : Int32) (1 : Int32) (2 : Int32)) [(.ref a1)]) _
    refine st157 _ ?_
    show GO p e below T157 (mkF m 140 (la3 a1 p2 p3 d4 p5 (7 : Int32) (1 : Int32) (2 : Int32)) [(.ref t3)]) _
    refine XS.iload X157.here hx rfl (hb hby d5_140) rfl ?_
    show GO p e below T157 (mkF m 142 (la3 a1 p2 p3 d4 p5 (7 : Int32) (1 : Int32) (2 : Int32)) [(.int 2), (.ref t3)]) _
    refine XS.iload X157.here hx rfl (hb hby d5_142) rfl ?_
    show GO p e below T157 (mkF m 144 (la3 a1 p2 p3 d4 p5 (7 : Int32) (1 : Int32) (2 : Int32)) [(.int p5), (.int 2), (.ref t3)]) _
    refine st160 _ ?_
    show GO p e below T160 (mkF m 145 (la3 a1 p2 p3 d4 p5 (7 : Int32) (1 : Int32) (2 : Int32)) []) _
    refine XS.aloadN X160.here hx rfl (hb hby d5_145) rfl rfl ?_
    show GO p e below T160 (mkF m 146 (la3 a1 p2 p3 d4 p5 (7 : Int32) (1 : Int32) (2 : Int32)) [(.ref a1)]) _
    refine XS.dup X160.here hx rfl (hb hby d5_146) rfl rfl ?_
    show GO p e below T160 (mkF m 147 (la3 a1 p2 p3 d4 p5 (7 : Int32) (1 : Int32) (2 : Int32)) [(.ref a1), (.ref a1)]) _
    refine st162 _ ?_
    show GO p e below T162 (mkF m 150 (la3 a1 p2 p3 d4 p5 (7 : Int32) (1 : Int32) (2 : Int32)) [(.int 2), (.ref a1)]) _
    refine XS.iconst X162.here hx rfl (hb hby d5_150) ?_
    show GO p e below T162 (mkF m 151 (la3 a1 p2 p3 d4 p5 (7 : Int32) (1 : Int32) (2 : Int32)) [(.int 1), (.int 2), (.ref a1)]) _
    refine XS.iadd X162.here hx rfl (hb hby d5_151) rfl ?_
    rw [show ((2 : Int32) + (1 : Int32)) = (3 : Int32) from by decide]
    show GO p e below T162 (mkF m 152 (la3 a1 p2 p3 d4 p5 (7 : Int32) (1 : Int32) (2 : Int32)) [(.int 3), (.ref a1)]) _
    refine st164 _ ?_
    show GO p e below T164 (mkF m 155 (la3 a1 p2 p3 d4 p5 (7 : Int32) (1 : Int32) (2 : Int32)) []) _
    refine XS.aloadN X164.here hx rfl (hb hby d5_155) rfl rfl ?_
    show GO p e below T164 (mkF m 156 (la3 a1 p2 p3 d4 p5 (7 : Int32) (1 : Int32) (2 : Int32)) [(.ref a1)]) _
    refine XS.dup X164.here hx rfl (hb hby d5_156) rfl rfl ?_
    show GO p e below T164 (mkF m 157 (la3 a1 p2 p3 d4 p5 (7 : Int32) (1 : Int32) (2 : Int32)) [(.ref a1), (.ref a1)]) _
    refine st166 _ ?_
    show GO p e below T166 (mkF m 160 (la3 a1 p2 p3 d4 p5 (7 : Int32) (1 : Int32) (2 : Int32)) [(.double c1), (.ref a1)]) _
    refine XS.dloadN X166.here hx rfl (hb hby d5_160) rfl ?_
    show GO p e below T166 (mkF m 161 (la3 a1 p2 p3 d4 p5 (7 : Int32) (1 : Int32) (2 : Int32)) [(.double d4), (.double c1), (.ref a1)]) _
    refine XS.daddS X166.here hx rfl (hb hby d5_161) rfl hn rfl ?_
    show GO p e below T166 (mkF m 162 (la3 a1 p2 p3 d4 p5 (7 : Int32) (1 : Int32) (2 : Int32)) [(.double (FP.dadd c1 d4)), (.ref a1)]) _
    refine st168 _ ?_
    show GO p e below T168 (mkF m 165 (la3 a1 p2 p3 d4 p5 (7 : Int32) (1 : Int32) (2 : Int32)) []) _
    exact X168.returnOut hx Bd.returns (hb hby d5_165) hr
  · show Qrm_add2 Z a1 p2 p3 d4 p5 c1 t0 k0 vA t1 k1 vL t2 k2 vD t3 k3 vR x7 h0 n0 _ T168.heap _
    rw [e168]
    exact ⟨rfl, N168, (((((((Keep.refl h0 [a1, t0, t1, t2, t3]).wr W145 (Or.inl (List.mem_of_getElem? (i := 1) rfl))).wr W150 (Or.inl (List.mem_of_getElem? (i := 2) rfl))).wr W155 (Or.inl (List.mem_of_getElem? (i := 3) rfl))).wr W160 (Or.inl (List.mem_of_getElem? (i := 4) rfl))).wr W164 (Or.inl (List.mem_of_getElem? (i := 0) rfl))).wr W168 (Or.inl (List.mem_of_getElem? (i := 0) rfl))), f169, f170, f171, f168, f172, f173, f174, f175, f176, f177, f178, f179⟩
def Qrm_add3 (Z : State) (a1 : Addr) (p2 : Int32) (p3 : Int32) (d4 : UInt64) (p5 : Int32) (c1 : UInt64) (t0 : Addr) (k0 : ClassId) (vA : List Value) (t1 : Addr) (k1 : ClassId) (vL : List Value) (t2 : Addr) (k2 : ClassId) (vD : List Value) (t3 : Addr) (k3 : ClassId) (vR : List Value) (x7 : Int32) (h0 : Heap) (n0 : Nat) (v : Option Value) (h : Heap) (L : List Loc) : Prop := v = none ∧ Fr n0 L ∧ Keep h0 h [a1, t0, t1, t2, t3] ∧ Exa Z h a1 kS0 ∧ Fld Z h a1 kS0 "head" "I" (.int 0) ∧ Fld Z h a1 kS0 "size" "I" (.int 4) ∧ Fld Z h a1 kS0 "content" "D" (.double (FP.dadd c1 d4)) ∧ Fld Z h a1 kS0 "agents" "[I" (.ref t0) ∧ Arv Z h t0 k0 .int (8 : Int32) (vA.set 3 (.int p2)) (.int 0) ∧ Fld Z h a1 kS0 "legs" "[I" (.ref t1) ∧ Arv Z h t1 k1 .int (8 : Int32) (vL.set 3 (.int p3)) (.int 0) ∧ Fld Z h a1 kS0 "amounts" "[D" (.ref t2) ∧ Arv Z h t2 k2 .double (8 : Int32) (vD.set 3 (.double d4)) (.double (0 : UInt64)) ∧ Fld Z h a1 kS0 "rears" "[Z" (.ref t3) ∧ Arv Z h t3 k3 .boolean (8 : Int32) (vR.set 3 (.int (nar .boolean p5))) (.int 0)
theorem ef_rm_add3 (m : MethodId) (x0 : Addr) (x1 : Int32) (x2 : Int32) (x3 : UInt64) (x4 : Int32) : entryFrame m #[(.ref x0), (.int x1), (.int x2), (.double x3), (.int x4)] 9 = mkF m 0 (la0 x0 x1 x2 x3 x4) [] := by first | rfl | (simp [entryFrame, mkF, argsToLocals, Value.category]; done)
set_option maxRecDepth 65536 in
set_option maxHeartbeats 40000000 in
theorem rm_add3 (l : Launch) (Z : State) (a0 : Array Value) (hw : ∀ d ∈ tables_1, d.before a0 Z = true) (ws : List Jvm.Cond) (a1 : Addr) (p2 : Int32) (p3 : Int32) (d4 : UInt64) (p5 : Int32) (c1 : UInt64) (t0 : Addr) (k0 : ClassId) (vA : List Value) (t1 : Addr) (k1 : ClassId) (vL : List Value) (t2 : Addr) (k2 : ClassId) (vD : List Value) (t3 : Addr) (k3 : ClassId) (vR : List Value) (x7 : Int32) (h0 : Heap) (n0 : Nat) (Z0 : n0 ≤ h0.size) (E1 : Exa Z h0 a1 kS0) (Fh : Fld Z h0 a1 kS0 "head" "I" (.int 0)) (Fs : Fld Z h0 a1 kS0 "size" "I" (.int 3)) (Fc : Fld Z h0 a1 kS0 "content" "D" (.double c1)) (F0 : Fld Z h0 a1 kS0 "agents" "[I" (.ref t0)) (V0 : Arv Z h0 t0 k0 .int (8 : Int32) vA (.int 0)) (F1 : Fld Z h0 a1 kS0 "legs" "[I" (.ref t1)) (V1 : Arv Z h0 t1 k1 .int (8 : Int32) vL (.int 0)) (F2 : Fld Z h0 a1 kS0 "amounts" "[D" (.ref t2)) (V2 : Arv Z h0 t2 k2 .double (8 : Int32) vD (.double (0 : UInt64))) (F3 : Fld Z h0 a1 kS0 "rears" "[Z" (.ref t3)) (V3 : Arv Z h0 t3 k3 .boolean (8 : Int32) vR (.int 0)) (len0 : vA.length = 8) (len1 : vL.length = 8) (len2 : vD.length = 8) (len3 : vR.length = 8) (o1 : LT.lt (α := Nat) a1 t0) (o2 : LT.lt (α := Nat) t0 t1) (o3 : LT.lt (α := Nat) t1 t2) (o4 : LT.lt (α := Nat) t2 t3) (g1 : n0 ≤ a1) (hn : Jvm.Free.Fl.NoNaN64 (FP.dadd c1 d4)) (hx7 : vA.getD ((2 : Int32)).toNatClampNeg (.int 0) = (.int x7)) (hd7 : ¬ (x7 = p2)) :
    MetFree l (⟨kS0, "add", "(IIDZ)V"⟩ : MethodName) (head1 (Jvm.Cond.code (⟨kS0, "add", "(IIDZ)V"⟩ : MethodName) prog_14_method_11_code 9 none :: ws) ({ frames := 0, cells := 0, slots := 0, locals := 0 } : Room)) (fun a U => a = #[(.ref a1), (.int p2), (.int p3), (.double d4), (.int p5)] ∧ Z.Warmed39 U.vm ∧ U.heap = h0) (fun _ _ _ _ _ => True) (fun _ U o U' => ∃ v L, o = .returned v ∧ Qrm_add3 Z a1 p2 p3 d4 p5 c1 t0 k0 vA t1 k1 vL t2 k2 vD t3 k3 vR x7 h0 n0 v U'.heap L ∧ FrameEnd U o U' L ({ frames := 0, cells := 0, slots := 0, locals := 0 } : Room).cells ({ frames := 0, cells := 0, slots := 0, locals := 0 } : Room).slots) := by
  refine MetFree.of_bodySF (plainFor_of_name pn_0) hisR ?_
  intro p e s m args below meth c s₁ Bd hml0 hP hK
  obtain ⟨rfl, hZ, hh⟩ := hP
  have hx := Bd.exec
  have hby := Bd.bytes
  have hml : c.maxLocals = 9 := hml0
  have hown : s.vm.findClass kS0 = some m.cls := findClass_of_methodNamed Bd.named
  have hnm := (name_of_methodNamed Bd.named Bd.method).1
  have X0 : Stand p l e ({ frames := 0, cells := 0, slots := 0, locals := 0 } : Room) s m #[(.ref a1), (.int p2), (.int p3), (.double d4), (.int p5)] below meth c s₁ [] 0 0 := Stand.of_body Bd
  have e0 : s₁.heap = h0 := by rw [← hh, Bd.state]; rfl
  have N0 := Fr.nil n0
  have pre0 : ∀ t, Steps p.tables e below (s₁.setTop (mkF m 0 (la0 a1 p2 p3 d4 p5) [])) t → Steps p.tables e below (s₁.setTop (entryFrame m #[(.ref a1), (.int p2), (.int p3), (.double d4), (.int p5)] 9)) t := fun t k => castTop (ef_rm_add3 m a1 p2 p3 d4 p5) k
  have lt_E1 := ltA E1.lt
  have lt_Fh := ltA Fh.lt
  have lt_Fs := ltA Fs.lt
  have lt_Fc := ltA Fc.lt
  have lt_F0 := ltA F0.lt
  have lt_V0 := ltA V0.lt
  have lt_F1 := ltA F1.lt
  have lt_V1 := ltA V1.lt
  have lt_F2 := ltA F2.lt
  have lt_V2 := ltA V2.lt
  have lt_F3 := ltA F3.lt
  have lt_V3 := ltA V3.lt
  obtain ⟨T180, X180, e180, st180⟩ := getF X0 hx hZ hown (host := "") (Or.inl (wd hw 15 rfl)) Via.refl e0 F0 (g := (mkF m 1 (la0 a1 p2 p3 d4 p5) [(.ref a1)])) rfl rfl (hb hby d5_1)
  obtain ⟨cl181, Ar181, -, S181, M181, -, -⟩ := id V0
  obtain ⟨T182, X182, e182, st182⟩ := getF X180 hx hZ hown (host := "") (Or.inl (wd hw 37 rfl)) Via.refl e180 Fh (g := (mkF m 10 (la1 a1 p2 p3 d4 p5 (7 : Int32)) [(.ref a1)])) rfl rfl (hb hby d5_10)
  obtain ⟨T183, X183, e183, st183⟩ := getF X182 hx hZ hown (host := "") (Or.inl (wd hw 30 rfl)) Via.refl e182 Fs (g := (mkF m 14 (la1 a1 p2 p3 d4 p5 (7 : Int32)) [(.ref a1), (.int 0)])) rfl rfl (hb hby d5_14)
  obtain ⟨T184, X184, e184, st184⟩ := getF X183 hx hZ hown (host := "") (Or.inl (wd hw 30 rfl)) Via.refl e183 Fs (g := (mkF m 26 (la2 a1 p2 p3 d4 p5 (7 : Int32) (2 : Int32)) [(.ref a1)])) rfl rfl (hb hby d5_26)
  obtain ⟨T185, X185, e185, st185⟩ := getF X184 hx hZ hown (host := "") (Or.inl (wd hw 15 rfl)) Via.refl e184 F0 (g := (mkF m 33 (la2 a1 p2 p3 d4 p5 (7 : Int32) (2 : Int32)) [(.ref a1)])) rfl rfl (hb hby d5_33)
  obtain ⟨cl186, Ar186, q186, S186, M186, H186, G186⟩ := id V0
  have hin186 : ¬ ((2 : Int32) < 0 ∨ cl186.slots.size ≤ ((2 : Int32)).toNatClampNeg) := inb_of S186 ⟨by decide, by decide⟩
  have hat186 : cl186.slots[((2 : Int32)).toNatClampNeg]? = some (.int x7) := Has.at H186 hin186 hx7
  obtain ⟨T187, X187, e187, st187⟩ := getF X185 hx hZ hown (host := "") (Or.inl (wd hw 30 rfl)) Via.refl e185 Fs (g := (mkF m 78 (la2 a1 p2 p3 d4 p5 (7 : Int32) (2 : Int32)) [(.ref a1)])) rfl rfl (hb hby d5_78)
  obtain ⟨T188, X188, e188, st188⟩ := getF X187 hx hZ hown (host := "") (Or.inl (wd hw 15 rfl)) Via.refl e187 F0 (g := (mkF m 82 (la2 a1 p2 p3 d4 p5 (7 : Int32) (2 : Int32)) [(.ref a1), (.int 3)])) rfl rfl (hb hby d5_82)
  obtain ⟨cl189, Ar189, -, S189, M189, -, -⟩ := id V0
  obtain ⟨T190, X190, e190, st190⟩ := getF X188 hx hZ hown (host := "") (Or.inl (wd hw 37 rfl)) Via.refl e188 Fh (g := (mkF m 94 (la2 a1 p2 p3 d4 p5 (7 : Int32) (2 : Int32)) [(.ref a1)])) rfl rfl (hb hby d5_94)
  obtain ⟨T191, X191, e191, st191⟩ := getF X190 hx hZ hown (host := "") (Or.inl (wd hw 30 rfl)) Via.refl e190 Fs (g := (mkF m 98 (la2 a1 p2 p3 d4 p5 (7 : Int32) (2 : Int32)) [(.ref a1), (.int 0)])) rfl rfl (hb hby d5_98)
  obtain ⟨T192, X192, e192, st192⟩ := getF X191 hx hZ hown (host := "") (Or.inl (wd hw 15 rfl)) Via.refl e191 F0 (g := (mkF m 103 (la2 a1 p2 p3 d4 p5 (7 : Int32) (2 : Int32)) [(.ref a1), (.int 3)])) rfl rfl (hb hby d5_103)
  obtain ⟨cl193, Ar193, -, S193, M193, -, -⟩ := id V0
  obtain ⟨T194, X194, e194, st194⟩ := getF X192 hx hZ hown (host := "") (Or.inl (wd hw 15 rfl)) Via.refl e192 F0 (g := (mkF m 113 (la3 a1 p2 p3 d4 p5 (7 : Int32) (2 : Int32) (3 : Int32)) [(.ref a1)])) rfl rfl (hb hby d5_113)
  obtain ⟨cl195, Ar195, q195, S195, M195, H195, G195⟩ := id V0
  have hin195 : ¬ ((3 : Int32) < 0 ∨ cl195.slots.size ≤ ((3 : Int32)).toNatClampNeg) := inb_of S195 ⟨by decide, by decide⟩
  obtain ⟨T196, h196, X196, e196, W196, st196⟩ := stI X194 hx hZ e194 Ar195 (j := (3 : Int32)) hin195 (g := (mkF m 119 (la3 a1 p2 p3 d4 p5 (7 : Int32) (2 : Int32) (3 : Int32)) [(.int p2), (.int 3), (.ref t0)])) rfl rfl (hb hby d5_119)
  have N196 := Fr.snoc X196 N0 (by omega : n0 ≤ t0)
  have sz196 : h0.size ≤ h196.size := Nat.le_of_eq W196.size.symm
  have V196 : Arv Z h196 t0 k0 .int (8 : Int32) (vA.set 3 (.int p2)) (.int 0) := Arv.set Ar195 q195 S195 M195 H195 G195 rfl W196 3 rfl (by omega)
  have f197 : Fld Z h196 a1 kS0 "legs" "[I" (.ref t1) := (F1.other W196 (Or.inl (neN (by omega))))
  obtain ⟨T198, X198, e198, st198⟩ := getF X196 hx hZ hown (host := "") (Or.inl (wd hw 17 rfl)) Via.refl e196 f197 (g := (mkF m 121 (la3 a1 p2 p3 d4 p5 (7 : Int32) (2 : Int32) (3 : Int32)) [(.ref a1)])) rfl rfl (hb hby d5_121)
  have f199 : Arv Z h196 t1 k1 .int (8 : Int32) vL (.int 0) := (V1.other W196 (neN (by omega)))
  obtain ⟨cl200, Ar200, q200, S200, M200, H200, G200⟩ := id f199
  have hin200 : ¬ ((3 : Int32) < 0 ∨ cl200.slots.size ≤ ((3 : Int32)).toNatClampNeg) := inb_of S200 ⟨by decide, by decide⟩
  obtain ⟨T201, h201, X201, e201, W201, st201⟩ := stI X198 hx hZ e198 Ar200 (j := (3 : Int32)) hin200 (g := (mkF m 127 (la3 a1 p2 p3 d4 p5 (7 : Int32) (2 : Int32) (3 : Int32)) [(.int p3), (.int 3), (.ref t1)])) rfl rfl (hb hby d5_127)
  have N201 := Fr.snoc X201 N196 (by omega : n0 ≤ t1)
  have sz201 : h196.size ≤ h201.size := Nat.le_of_eq W201.size.symm
  have V201 : Arv Z h201 t1 k1 .int (8 : Int32) (vL.set 3 (.int p3)) (.int 0) := Arv.set Ar200 q200 S200 M200 H200 G200 rfl W201 3 rfl (by omega)
  have f202 : Fld Z h201 a1 kS0 "amounts" "[D" (.ref t2) := ((F2.other W196 (Or.inl (neN (by omega)))).other W201 (Or.inl (neN (by omega))))
  obtain ⟨T203, X203, e203, st203⟩ := getF X201 hx hZ hown (host := "") (Or.inl (wd hw 20 rfl)) Via.refl e201 f202 (g := (mkF m 129 (la3 a1 p2 p3 d4 p5 (7 : Int32) (2 : Int32) (3 : Int32)) [(.ref a1)])) rfl rfl (hb hby d5_129)
  have f204 : Arv Z h201 t2 k2 .double (8 : Int32) vD (.double (0 : UInt64)) := ((V2.other W196 (neN (by omega))).other W201 (neN (by omega)))
  obtain ⟨cl205, Ar205, q205, S205, M205, H205, G205⟩ := id f204
  have hin205 : ¬ ((3 : Int32) < 0 ∨ cl205.slots.size ≤ ((3 : Int32)).toNatClampNeg) := inb_of S205 ⟨by decide, by decide⟩
  obtain ⟨T206, h206, X206, e206, W206, st206⟩ := stD X203 hx hZ e203 Ar205 (j := (3 : Int32)) hin205 (g := (mkF m 135 (la3 a1 p2 p3 d4 p5 (7 : Int32) (2 : Int32) (3 : Int32)) [(.double d4), (.int 3), (.ref t2)])) rfl rfl (hb hby d5_135)
  have N206 := Fr.snoc X206 N201 (by omega : n0 ≤ t2)
  have sz206 : h201.size ≤ h206.size := Nat.le_of_eq W206.size.symm
  have V206 : Arv Z h206 t2 k2 .double (8 : Int32) (vD.set 3 (.double d4)) (.double (0 : UInt64)) := Arv.set Ar205 q205 S205 M205 H205 G205 rfl W206 3 rfl (by omega)
  have f207 : Fld Z h206 a1 kS0 "rears" "[Z" (.ref t3) := (((F3.other W196 (Or.inl (neN (by omega)))).other W201 (Or.inl (neN (by omega)))).other W206 (Or.inl (neN (by omega))))
  obtain ⟨T208, X208, e208, st208⟩ := getF X206 hx hZ hown (host := "") (Or.inl (wd hw 23 rfl)) Via.refl e206 f207 (g := (mkF m 137 (la3 a1 p2 p3 d4 p5 (7 : Int32) (2 : Int32) (3 : Int32)) [(.ref a1)])) rfl rfl (hb hby d5_137)
  have f209 : Arv Z h206 t3 k3 .boolean (8 : Int32) vR (.int 0) := (((V3.other W196 (neN (by omega))).other W201 (neN (by omega))).other W206 (neN (by omega)))
  obtain ⟨cl210, Ar210, q210, S210, M210, H210, G210⟩ := id f209
  have hin210 : ¬ ((3 : Int32) < 0 ∨ cl210.slots.size ≤ ((3 : Int32)).toNatClampNeg) := inb_of S210 ⟨by decide, by decide⟩
  obtain ⟨T211, h211, X211, e211, W211, st211⟩ := stZ X208 hx hZ e208 Ar210 (j := (3 : Int32)) hin210 (g := (mkF m 144 (la3 a1 p2 p3 d4 p5 (7 : Int32) (2 : Int32) (3 : Int32)) [(.int p5), (.int 3), (.ref t3)])) rfl rfl (hb hby d5_144)
  have N211 := Fr.snoc X211 N206 (by omega : n0 ≤ t3)
  have sz211 : h206.size ≤ h211.size := Nat.le_of_eq W211.size.symm
  have V211 : Arv Z h211 t3 k3 .boolean (8 : Int32) (vR.set 3 (.int (nar .boolean p5))) (.int 0) := Arv.set Ar210 q210 S210 M210 H210 G210 (fits_nar_bool _) W211 3 rfl (by omega)
  have f212 : Fld Z h211 a1 kS0 "size" "I" (.int 3) := ((((Fs.other W196 (Or.inl (neN (by omega)))).other W201 (Or.inl (neN (by omega)))).other W206 (Or.inl (neN (by omega)))).other W211 (Or.inl (neN (by omega))))
  obtain ⟨T213, X213, e213, st213⟩ := getF X211 hx hZ hown (host := "") (Or.inl (wd hw 30 rfl)) Via.refl e211 f212 (g := (mkF m 147 (la3 a1 p2 p3 d4 p5 (7 : Int32) (2 : Int32) (3 : Int32)) [(.ref a1), (.ref a1)])) rfl rfl (hb hby d5_147)
  have f214 : Exa Z h211 a1 kS0 := ((((E1.wr W196).wr W201).wr W206).wr W211)
  obtain ⟨T215, h215, X215, e215, W215, st215⟩ := putF X213 hx hZ hown (host := "") (Or.inl (wd hw 30 rfl)) Via.refl e213 f212 f214 (Or.inl (wd hw 31 rfl)) (wd hw 6 rfl) (ty := .int) (by decide) rfl rfl (g := (mkF m 152 (la3 a1 p2 p3 d4 p5 (7 : Int32) (2 : Int32) (3 : Int32)) [(.int 4), (.ref a1)])) rfl rfl (hb hby d5_152)
  have N215 := Fr.snoc X215 N211 (by omega : n0 ≤ a1)
  have sz215 : h211.size ≤ h215.size := Nat.le_of_eq W215.size.symm
  have f215 : Fld Z h215 a1 kS0 "size" "I" (.int 4) := f212.same W215
  have f216 : Fld Z h215 a1 kS0 "content" "D" (.double c1) := (((((Fc.other W196 (Or.inl (neN (by omega)))).other W201 (Or.inl (neN (by omega)))).other W206 (Or.inl (neN (by omega)))).other W211 (Or.inl (neN (by omega)))).other W215 (Or.inr (slot_ne (Or.inl (wd hw 40 rfl)) (Or.inl (wd hw 31 rfl)) (by decide) (t := .double) (t' := .int) (by decide) (by decide))))
  obtain ⟨T217, X217, e217, st217⟩ := getF X215 hx hZ hown (host := "") (Or.inl (wd hw 39 rfl)) Via.refl e215 f216 (g := (mkF m 157 (la3 a1 p2 p3 d4 p5 (7 : Int32) (2 : Int32) (3 : Int32)) [(.ref a1), (.ref a1)])) rfl rfl (hb hby d5_157)
  have f218 : Exa Z h215 a1 kS0 := (f214.wr W215)
  obtain ⟨T219, h219, X219, e219, W219, st219⟩ := putF X217 hx hZ hown (host := "") (Or.inl (wd hw 39 rfl)) Via.refl e217 f216 f218 (Or.inl (wd hw 40 rfl)) (wd hw 6 rfl) (ty := .double) (by decide) rfl rfl (g := (mkF m 162 (la3 a1 p2 p3 d4 p5 (7 : Int32) (2 : Int32) (3 : Int32)) [(.double (FP.dadd c1 d4)), (.ref a1)])) rfl rfl (hb hby d5_162)
  have N219 := Fr.snoc X219 N215 (by omega : n0 ≤ a1)
  have sz219 : h215.size ≤ h219.size := Nat.le_of_eq W219.size.symm
  have f219 : Fld Z h219 a1 kS0 "content" "D" (.double (FP.dadd c1 d4)) := f216.same W219
  have f220 : Exa Z h219 a1 kS0 := (f218.wr W219)
  have f221 : Fld Z h219 a1 kS0 "head" "I" (.int 0) := ((((((Fh.other W196 (Or.inl (neN (by omega)))).other W201 (Or.inl (neN (by omega)))).other W206 (Or.inl (neN (by omega)))).other W211 (Or.inl (neN (by omega)))).other W215 (Or.inr (slot_ne (Or.inl (wd hw 38 rfl)) (Or.inl (wd hw 31 rfl)) (by decide) (t := .int) (t' := .int) (by decide) (by decide)))).other W219 (Or.inr (slot_ne (Or.inl (wd hw 38 rfl)) (Or.inl (wd hw 40 rfl)) (by decide) (t := .int) (t' := .double) (by decide) (by decide))))
  have f222 : Fld Z h219 a1 kS0 "size" "I" (.int 4) := (f215.other W219 (Or.inr (slot_ne (Or.inl (wd hw 31 rfl)) (Or.inl (wd hw 40 rfl)) (by decide) (t := .int) (t' := .double) (by decide) (by decide))))
  have f223 : Fld Z h219 a1 kS0 "agents" "[I" (.ref t0) := ((((((F0.other W196 (Or.inl (neN (by omega)))).other W201 (Or.inl (neN (by omega)))).other W206 (Or.inl (neN (by omega)))).other W211 (Or.inl (neN (by omega)))).other W215 (Or.inr (slot_ne (Or.inl (wd hw 16 rfl)) (Or.inl (wd hw 31 rfl)) (by decide) (t := (.array .int)) (t' := .int) (by decide) (by decide)))).other W219 (Or.inr (slot_ne (Or.inl (wd hw 16 rfl)) (Or.inl (wd hw 40 rfl)) (by decide) (t := (.array .int)) (t' := .double) (by decide) (by decide))))
  have f224 : Arv Z h219 t0 k0 .int (8 : Int32) (vA.set 3 (.int p2)) (.int 0) := (((((V196.other W201 (neN (by omega))).other W206 (neN (by omega))).other W211 (neN (by omega))).other W215 (neN (by omega))).other W219 (neN (by omega)))
  have f225 : Fld Z h219 a1 kS0 "legs" "[I" (.ref t1) := (((((f197.other W201 (Or.inl (neN (by omega)))).other W206 (Or.inl (neN (by omega)))).other W211 (Or.inl (neN (by omega)))).other W215 (Or.inr (slot_ne (Or.inl (wd hw 18 rfl)) (Or.inl (wd hw 31 rfl)) (by decide) (t := (.array .int)) (t' := .int) (by decide) (by decide)))).other W219 (Or.inr (slot_ne (Or.inl (wd hw 18 rfl)) (Or.inl (wd hw 40 rfl)) (by decide) (t := (.array .int)) (t' := .double) (by decide) (by decide))))
  have f226 : Arv Z h219 t1 k1 .int (8 : Int32) (vL.set 3 (.int p3)) (.int 0) := ((((V201.other W206 (neN (by omega))).other W211 (neN (by omega))).other W215 (neN (by omega))).other W219 (neN (by omega)))
  have f227 : Fld Z h219 a1 kS0 "amounts" "[D" (.ref t2) := ((((f202.other W206 (Or.inl (neN (by omega)))).other W211 (Or.inl (neN (by omega)))).other W215 (Or.inr (slot_ne (Or.inl (wd hw 21 rfl)) (Or.inl (wd hw 31 rfl)) (by decide) (t := (.array .double)) (t' := .int) (by decide) (by decide)))).other W219 (Or.inr (slot_ne (Or.inl (wd hw 21 rfl)) (Or.inl (wd hw 40 rfl)) (by decide) (t := (.array .double)) (t' := .double) (by decide) (by decide))))
  have f228 : Arv Z h219 t2 k2 .double (8 : Int32) (vD.set 3 (.double d4)) (.double (0 : UInt64)) := (((V206.other W211 (neN (by omega))).other W215 (neN (by omega))).other W219 (neN (by omega)))
  have f229 : Fld Z h219 a1 kS0 "rears" "[Z" (.ref t3) := (((f207.other W211 (Or.inl (neN (by omega)))).other W215 (Or.inr (slot_ne (Or.inl (wd hw 24 rfl)) (Or.inl (wd hw 31 rfl)) (by decide) (t := (.array .boolean)) (t' := .int) (by decide) (by decide)))).other W219 (Or.inr (slot_ne (Or.inl (wd hw 24 rfl)) (Or.inl (wd hw 40 rfl)) (by decide) (t := (.array .boolean)) (t' := .double) (by decide) (by decide))))
  have f230 : Arv Z h219 t3 k3 .boolean (8 : Int32) (vR.set 3 (.int (nar .boolean p5))) (.int 0) := ((V211.other W215 (neN (by omega))).other W219 (neN (by omega)))
  obtain ⟨fs, hr, hrun, hended, hW, hsame⟩ := X219.leave (v := none) (fun _ => rfl)
  refine ⟨_, _, pre0 _ ?_, hrun, hended, _, _, rfl, ?_, ⟨_, rfl⟩, hW, hsame.mono (by decide) (by decide)⟩
  · show GO p e below s₁ (mkF m 0 (la0 a1 p2 p3 d4 p5) []) _
    refine XS.aloadN X0.here hx rfl (hb hby d5_0) rfl rfl ?_
    show GO p e below s₁ (mkF m 1 (la0 a1 p2 p3 d4 p5) [(.ref a1)]) _
    refine st180 _ ?_
    show GO p e below T180 (mkF m 4 (la0 a1 p2 p3 d4 p5) [(.ref t0)]) _
    refine X180.arraylength hx (by rw [e180]; exact Ar181.1) (State.isArrayOf_alike hZ.alike Ar181.2.1) (g := (mkF m 4 (la0 a1 p2 p3 d4 p5) [(.ref t0)])) rfl rfl (hb hby d5_4) _ ?_
    rw [len_of S181 M181]
    show GO p e below T180 (mkF m 5 (la0 a1 p2 p3 d4 p5) [(.int 8)]) _
    refine XS.iconst X180.here hx rfl (hb hby d5_5) ?_
    show GO p e below T180 (mkF m 6 (la0 a1 p2 p3 d4 p5) [(.int 1), (.int 8)]) _
    refine XS.isub X180.here hx rfl (hb hby d5_6) rfl ?_
    rw [show ((8 : Int32) - (1 : Int32)) = (7 : Int32) from by decide]
    show GO p e below T180 (mkF m 7 (la0 a1 p2 p3 d4 p5) [(.int 7)]) _
    refine XS.istore X180.here hx rfl (hb hby d5_7) rfl (l' := (la1 a1 p2 p3 d4 p5 (7 : Int32))) rfl ?_
    show GO p e below T180 (mkF m 9 (la1 a1 p2 p3 d4 p5 (7 : Int32)) []) _
    refine XS.aloadN X180.here hx rfl (hb hby d5_9) rfl rfl ?_
    show GO p e below T180 (mkF m 10 (la1 a1 p2 p3 d4 p5 (7 : Int32)) [(.ref a1)]) _
    refine st182 _ ?_
    show GO p e below T182 (mkF m 13 (la1 a1 p2 p3 d4 p5 (7 : Int32)) [(.int 0)]) _
    refine XS.aloadN X182.here hx rfl (hb hby d5_13) rfl rfl ?_
    show GO p e below T182 (mkF m 14 (la1 a1 p2 p3 d4 p5 (7 : Int32)) [(.ref a1), (.int 0)]) _
    refine st183 _ ?_
    show GO p e below T183 (mkF m 17 (la1 a1 p2 p3 d4 p5 (7 : Int32)) [(.int 3), (.int 0)]) _
    refine XS.iadd X183.here hx rfl (hb hby d5_17) rfl ?_
    rw [show ((0 : Int32) + (3 : Int32)) = (3 : Int32) from by decide]
    show GO p e below T183 (mkF m 18 (la1 a1 p2 p3 d4 p5 (7 : Int32)) [(.int 3)]) _
    refine XS.iconst X183.here hx rfl (hb hby d5_18) ?_
    show GO p e below T183 (mkF m 19 (la1 a1 p2 p3 d4 p5 (7 : Int32)) [(.int 1), (.int 3)]) _
    refine XS.isub X183.here hx rfl (hb hby d5_19) rfl ?_
    rw [show ((3 : Int32) - (1 : Int32)) = (2 : Int32) from by decide]
    show GO p e below T183 (mkF m 20 (la1 a1 p2 p3 d4 p5 (7 : Int32)) [(.int 2)]) _
    refine XS.iload X183.here hx rfl (hb hby d5_20) rfl ?_
    show GO p e below T183 (mkF m 22 (la1 a1 p2 p3 d4 p5 (7 : Int32)) [(.int 7), (.int 2)]) _
    refine XS.iand X183.here hx rfl (hb hby d5_22) rfl ?_
    rw [show ((2 : Int32) &&& (7 : Int32)) = (2 : Int32) from by decide]
    show GO p e below T183 (mkF m 23 (la1 a1 p2 p3 d4 p5 (7 : Int32)) [(.int 2)]) _
    refine XS.istore X183.here hx rfl (hb hby d5_23) rfl (l' := (la2 a1 p2 p3 d4 p5 (7 : Int32) (2 : Int32))) rfl ?_
    show GO p e below T183 (mkF m 25 (la2 a1 p2 p3 d4 p5 (7 : Int32) (2 : Int32)) []) _
    refine XS.aloadN X183.here hx rfl (hb hby d5_25) rfl rfl ?_
    show GO p e below T183 (mkF m 26 (la2 a1 p2 p3 d4 p5 (7 : Int32) (2 : Int32)) [(.ref a1)]) _
    refine st184 _ ?_
    show GO p e below T184 (mkF m 29 (la2 a1 p2 p3 d4 p5 (7 : Int32) (2 : Int32)) [(.int 3)]) _
    refine XS.ifNo X184.here hx rfl (hb hby d5_29) rfl ((if0 _ _).trans (tlt ((by decide) : (0 : Int32) < (3 : Int32))).2.2.2) ?_
    show GO p e below T184 (mkF m 32 (la2 a1 p2 p3 d4 p5 (7 : Int32) (2 : Int32)) []) _
    refine XS.aloadN X184.here hx rfl (hb hby d5_32) rfl rfl ?_
    show GO p e below T184 (mkF m 33 (la2 a1 p2 p3 d4 p5 (7 : Int32) (2 : Int32)) [(.ref a1)]) _
    refine st185 _ ?_
    show GO p e below T185 (mkF m 36 (la2 a1 p2 p3 d4 p5 (7 : Int32) (2 : Int32)) [(.ref t0)]) _
    refine XS.iload X185.here hx rfl (hb hby d5_36) rfl ?_
    show GO p e below T185 (mkF m 38 (la2 a1 p2 p3 d4 p5 (7 : Int32) (2 : Int32)) [(.int 2), (.ref t0)]) _
    refine X185.iaload hx (j := (2 : Int32)) (v := (.int x7)) (by rw [e185]; exact Ar186.1) (State.isArrayOf_alike hZ.alike Ar186.2.1) Ar186.2.2 hin186 hat186 (g := (mkF m 38 (la2 a1 p2 p3 d4 p5 (7 : Int32) (2 : Int32)) [(.int 2), (.ref t0)])) rfl rfl (hb hby d5_38) _ ?_
    show GO p e below T185 (mkF m 39 (la2 a1 p2 p3 d4 p5 (7 : Int32) (2 : Int32)) [(.int x7)]) _
    refine XS.iloadN X185.here hx rfl (hb hby d5_39) rfl ?_
    show GO p e below T185 (mkF m 40 (la2 a1 p2 p3 d4 p5 (7 : Int32) (2 : Int32)) [(.int p2), (.int x7)]) _
    refine XS.icmpYes X185.here hx rfl (pc0 := 40) (pc' := 77) rfl (hb hby d5_40) rfl (feq (hd7 : ¬ (x7 = p2))).2 (by decide) (by decide) ?_
    show GO p e below T185 (mkF m 77 (la2 a1 p2 p3 d4 p5 (7 : Int32) (2 : Int32)) []) _
    refine XS.aloadN X185.here hx rfl (hb hby d5_77) rfl rfl ?_
    show GO p e below T185 (mkF m 78 (la2 a1 p2 p3 d4 p5 (7 : Int32) (2 : Int32)) [(.ref a1)]) _
    refine st187 _ ?_
    show GO p e below T187 (mkF m 81 (la2 a1 p2 p3 d4 p5 (7 : Int32) (2 : Int32)) [(.int 3)]) _
    refine XS.aloadN X187.here hx rfl (hb hby d5_81) rfl rfl ?_
    show GO p e below T187 (mkF m 82 (la2 a1 p2 p3 d4 p5 (7 : Int32) (2 : Int32)) [(.ref a1), (.int 3)]) _
    refine st188 _ ?_
    show GO p e below T188 (mkF m 85 (la2 a1 p2 p3 d4 p5 (7 : Int32) (2 : Int32)) [(.ref t0), (.int 3)]) _
    refine X188.arraylength hx (by rw [e188]; exact Ar189.1) (State.isArrayOf_alike hZ.alike Ar189.2.1) (g := (mkF m 85 (la2 a1 p2 p3 d4 p5 (7 : Int32) (2 : Int32)) [(.ref t0), (.int 3)])) rfl rfl (hb hby d5_85) _ ?_
    rw [len_of S189 M189]
    show GO p e below T188 (mkF m 86 (la2 a1 p2 p3 d4 p5 (7 : Int32) (2 : Int32)) [(.int 8), (.int 3)]) _
    refine XS.icmpYes X188.here hx rfl (pc0 := 86) (pc' := 93) rfl (hb hby d5_86) rfl (feq ((by decide) : ¬ ((3 : Int32) = (8 : Int32)))).2 (by decide) (by decide) ?_
    show GO p e below T188 (mkF m 93 (la2 a1 p2 p3 d4 p5 (7 : Int32) (2 : Int32)) []) _
    refine XS.aloadN X188.here hx rfl (hb hby d5_93) rfl rfl ?_
    show GO p e below T188 (mkF m 94 (la2 a1 p2 p3 d4 p5 (7 : Int32) (2 : Int32)) [(.ref a1)]) _
    refine st190 _ ?_
    show GO p e below T190 (mkF m 97 (la2 a1 p2 p3 d4 p5 (7 : Int32) (2 : Int32)) [(.int 0)]) _
    refine XS.aloadN X190.here hx rfl (hb hby d5_97) rfl rfl ?_
    show GO p e below T190 (mkF m 98 (la2 a1 p2 p3 d4 p5 (7 : Int32) (2 : Int32)) [(.ref a1), (.int 0)]) _
    refine st191 _ ?_
    show GO p e below T191 (mkF m 101 (la2 a1 p2 p3 d4 p5 (7 : Int32) (2 : Int32)) [(.int 3), (.int 0)]) _
    refine XS.iadd X191.here hx rfl (hb hby d5_101) rfl ?_
    rw [show ((0 : Int32) + (3 : Int32)) = (3 : Int32) from by decide]
    show GO p e below T191 (mkF m 102 (la2 a1 p2 p3 d4 p5 (7 : Int32) (2 : Int32)) [(.int 3)]) _
    refine XS.aloadN X191.here hx rfl (hb hby d5_102) rfl rfl ?_
    show GO p e below T191 (mkF m 103 (la2 a1 p2 p3 d4 p5 (7 : Int32) (2 : Int32)) [(.ref a1), (.int 3)]) _
    refine st192 _ ?_
    show GO p e below T192 (mkF m 106 (la2 a1 p2 p3 d4 p5 (7 : Int32) (2 : Int32)) [(.ref t0), (.int 3)]) _
    refine X192.arraylength hx (by rw [e192]; exact Ar193.1) (State.isArrayOf_alike hZ.alike Ar193.2.1) (g := (mkF m 106 (la2 a1 p2 p3 d4 p5 (7 : Int32) (2 : Int32)) [(.ref t0), (.int 3)])) rfl rfl (hb hby d5_106) _ ?_
    rw [len_of S193 M193]
    show GO p e below T192 (mkF m 107 (la2 a1 p2 p3 d4 p5 (7 : Int32) (2 : Int32)) [(.int 8), (.int 3)]) _
    refine XS.iconst X192.here hx rfl (hb hby d5_107) ?_
    show GO p e below T192 (mkF m 108 (la2 a1 p2 p3 d4 p5 (7 : Int32) (2 : Int32)) [(.int 1), (.int 8), (.int 3)]) _
    refine XS.isub X192.here hx rfl (hb hby d5_108) rfl ?_
    rw [show ((8 : Int32) - (1 : Int32)) = (7 : Int32) from by decide]
    show GO p e below T192 (mkF m 109 (la2 a1 p2 p3 d4 p5 (7 : Int32) (2 : Int32)) [(.int 7), (.int 3)]) _
    refine XS.iand X192.here hx rfl (hb hby d5_109) rfl ?_
    rw [show ((3 : Int32) &&& (7 : Int32)) = (3 : Int32) from by decide]
    show GO p e below T192 (mkF m 110 (la2 a1 p2 p3 d4 p5 (7 : Int32) (2 : Int32)) [(.int 3)]) _
    refine XS.istore X192.here hx rfl (hb hby d5_110) rfl (l' := (la3 a1 p2 p3 d4 p5 (7 : Int32) (2 : Int32) (3 : Int32))) rfl ?_
    show GO p e below T192 (mkF m 112 (la3 a1 p2 p3 d4 p5 (7 : Int32) (2 : Int32) (3 : Int32)) []) _
    refine XS.aloadN X192.here hx rfl (hb hby d5_112) rfl rfl ?_
    show GO p e below T192 (mkF m 113 (la3 a1 p2 p3 d4 p5 (7 : Int32) (2 : Int32) (3 : Int32)) [(.ref a1)]) _
    refine st194 _ ?_
    show GO p e below T194 (mkF m 116 (la3 a1 p2 p3 d4 p5 (7 : Int32) (2 : Int32) (3 : Int32)) [(.ref t0)]) _
    refine XS.iload X194.here hx rfl (hb hby d5_116) rfl ?_
    show GO p e below T194 (mkF m 118 (la3 a1 p2 p3 d4 p5 (7 : Int32) (2 : Int32) (3 : Int32)) [(.int 3), (.ref t0)]) _
    refine XS.iloadN X194.here hx rfl (hb hby d5_118) rfl ?_
    show GO p e below T194 (mkF m 119 (la3 a1 p2 p3 d4 p5 (7 : Int32) (2 : Int32) (3 : Int32)) [(.int p2), (.int 3), (.ref t0)]) _
    refine st196 _ ?_
    show GO p e below T196 (mkF m 120 (la3 a1 p2 p3 d4 p5 (7 : Int32) (2 : Int32) (3 : Int32)) []) _
    refine XS.aloadN X196.here hx rfl (hb hby d5_120) rfl rfl ?_
    show GO p e below T196 (mkF m 121 (la3 a1 p2 p3 d4 p5 (7 : Int32) (2 : Int32) (3 : Int32)) [(.ref a1)]) _
    refine st198 _ ?_
    show GO p e below T198 (mkF m 124 (la3 a1 p2 p3 d4 p5 (7 : Int32) (2 : Int32) (3 : Int32)) [(.ref t1)]) _
    refine XS.iload X198.here hx rfl (hb hby d5_124) rfl ?_
    show GO p e below T198 (mkF m 126 (la3 a1 p2 p3 d4 p5 (7 : Int32) (2 : Int32) (3 : Int32)) [(.int 3), (.ref t1)]) _
    refine XS.iloadN X198.here hx rfl (hb hby d5_126) rfl ?_
    show GO p e below T198 (mkF m 127 (la3 a1 p2 p3 d4 p5 (7 : Int32) (2 : Int32) (3 : Int32)) [(.int p3), (.int 3), (.ref t1)]) _
    refine st201 _ ?_
    show GO p e below T201 (mkF m 128 (la3 a1 p2 p3 d4 p5 (7 : Int32) (2 : Int32) (3 : Int32)) []) _
    refine XS.aloadN X201.here hx rfl (hb hby d5_128) rfl rfl ?_
    show GO p e below T201 (mkF m 129 (la3 a1 p2 p3 d4 p5 (7 : Int32) (2 : Int32) (3 : Int32)) [(.ref a1)]) _
    refine st203 _ ?_
    show GO p e below T203 (mkF m 132 (la3 a1 p2 p3 d4 p5 (7 : Int32) (2 : Int32) (3 : Int32)) [(.ref t2)]) _
    refine XS.iload X203.here hx rfl (hb hby d5_132) rfl ?_
    show GO p e below T203 (mkF m 134 (la3 a1 p2 p3 d4 p5 (7 : Int32) (2 : Int32) (3 : Int32)) [(.int 3), (.ref t2)]) _
    refine XS.dloadN X203.here hx rfl (hb hby d5_134) rfl ?_
    show GO p e below T203 (mkF m 135 (la3 a1 p2 p3 d4 p5 (7 : Int32) (2 : Int32) (3 : Int32)) [(.double d4), (.int 3), (.ref t2)]) _
    refine st206 _ ?_
    show GO p e below T206 (mkF m 136 (la3 a1 p2 p3 d4 p5 (7 : Int32) (2 : Int32) (3 : Int32)) []) _
    refine XS.aloadN X206.here hx rfl (hb hby d5_136) rfl rfl ?_
    show GO p e below T206 (mkF m 137 (la3 a1 p2 p3 d4 p5 (7 : Int32) (2 : Int32) (3 : Int32)) [(.ref a1)]) _
    refine st208 _ ?_
    show GO p e below T208 (mkF m 140 (la3 a1 p2 p3 d4 p5 (7 : Int32) (2 : Int32) (3 : Int32)) [(.ref t3)]) _
    refine XS.iload X208.here hx rfl (hb hby d5_140) rfl ?_
    show GO p e below T208 (mkF m 142 (la3 a1 p2 p3 d4 p5 (7 : Int32) (2 : Int32) (3 : Int32)) [(.int 3), (.ref t3)]) _
    refine XS.iload X208.here hx rfl (hb hby d5_142) rfl ?_
    show GO p e below T208 (mkF m 144 (la3 a1 p2 p3 d4 p5 (7 : Int32) (2 : Int32) (3 : Int32)) [(.int p5), (.int 3), (.ref t3)]) _
    refine st211 _ ?_
    show GO p e below T211 (mkF m 145 (la3 a1 p2 p3 d4 p5 (7 : Int32) (2 : Int32) (3 : Int32)) []) _
    refine XS.aloadN X211.here hx rfl (hb hby d5_145) rfl rfl ?_
    show GO p e below T211 (mkF m 146 (la3 a1 p2 p3 d4 p5 (7 : Int32) (2 : Int32) (3 : Int32)) [(.ref a1)]) _
    refine XS.dup X211.here hx rfl (hb hby d5_146) rfl rfl ?_
    show GO p e below T211 (mkF m 147 (la3 a1 p2 p3 d4 p5 (7 : Int32) (2 : Int32) (3 : Int32)) [(.ref a1), (.ref a1)]) _
    refine st213 _ ?_
    show GO p e below T213 (mkF m 150 (la3 a1 p2 p3 d4 p5 (7 : Int32) (2 : Int32) (3 : Int32)) [(.int 3), (.ref a1)]) _
    refine XS.iconst X213.here hx rfl (hb hby d5_150) ?_
    show GO p e below T213 (mkF m 151 (la3 a1 p2 p3 d4 p5 (7 : Int32) (2 : Int32) (3 : Int32)) [(.int 1), (.int 3), (.ref a1)]) _
    refine XS.iadd X213.here hx rfl (hb hby d5_151) rfl ?_
    rw [show ((3 : Int32) + (1 : Int32)) = (4 : Int32) from by decide]
    show GO p e below T213 (mkF m 152 (la3 a1 p2 p3 d4 p5 (7 : Int32) (2 : Int32) (3 : Int32)) [(.int 4), (.ref a1)]) _
    refine st215 _ ?_
    show GO p e below T215 (mkF m 155 (la3 a1 p2 p3 d4 p5 (7 : Int32) (2 : Int32) (3 : Int32)) []) _
    refine XS.aloadN X215.here hx rfl (hb hby d5_155) rfl rfl ?_
    show GO p e below T215 (mkF m 156 (la3 a1 p2 p3 d4 p5 (7 : Int32) (2 : Int32) (3 : Int32)) [(.ref a1)]) _
    refine XS.dup X215.here hx rfl (hb hby d5_156) rfl rfl ?_
    show GO p e below T215 (mkF m 157 (la3 a1 p2 p3 d4 p5 (7 : Int32) (2 : Int32) (3 : Int32)) [(.ref a1), (.ref a1)]) _
    refine st217 _ ?_
    show GO p e below T217 (mkF m 160 (la3 a1 p2 p3 d4 p5 (7 : Int32) (2 : Int32) (3 : Int32)) [(.double c1), (.ref a1)]) _
    refine XS.dloadN X217.here hx rfl (hb hby d5_160) rfl ?_
    show GO p e below T217 (mkF m 161 (la3 a1 p2 p3 d4 p5 (7 : Int32) (2 : Int32) (3 : Int32)) [(.double d4), (.double c1), (.ref a1)]) _
    refine XS.daddS X217.here hx rfl (hb hby d5_161) rfl hn rfl ?_
    show GO p e below T217 (mkF m 162 (la3 a1 p2 p3 d4 p5 (7 : Int32) (2 : Int32) (3 : Int32)) [(.double (FP.dadd c1 d4)), (.ref a1)]) _
    refine st219 _ ?_
    show GO p e below T219 (mkF m 165 (la3 a1 p2 p3 d4 p5 (7 : Int32) (2 : Int32) (3 : Int32)) []) _
    exact X219.returnOut hx Bd.returns (hb hby d5_165) hr
  · show Qrm_add3 Z a1 p2 p3 d4 p5 c1 t0 k0 vA t1 k1 vL t2 k2 vD t3 k3 vR x7 h0 n0 _ T219.heap _
    rw [e219]
    exact ⟨rfl, N219, (((((((Keep.refl h0 [a1, t0, t1, t2, t3]).wr W196 (Or.inl (List.mem_of_getElem? (i := 1) rfl))).wr W201 (Or.inl (List.mem_of_getElem? (i := 2) rfl))).wr W206 (Or.inl (List.mem_of_getElem? (i := 3) rfl))).wr W211 (Or.inl (List.mem_of_getElem? (i := 4) rfl))).wr W215 (Or.inl (List.mem_of_getElem? (i := 0) rfl))).wr W219 (Or.inl (List.mem_of_getElem? (i := 0) rfl))), f220, f221, f222, f219, f223, f224, f225, f226, f227, f228, f229, f230⟩
def Qrm_takef0 (Z : State) (a1 : Addr) (d2 : UInt64) (z1 : Int32) (c1 : UInt64) (x1 : UInt64) (t0 : Addr) (k0 : ClassId) (vA : List Value) (t1 : Addr) (k1 : ClassId) (vL : List Value) (t2 : Addr) (k2 : ClassId) (vD : List Value) (t3 : Addr) (k3 : ClassId) (vR : List Value) (h0 : Heap) (n0 : Nat) (v : Option Value) (h : Heap) (L : List Loc) : Prop := v = none ∧ Fr n0 L ∧ Keep h0 h [a1, t0, t1, t2, t3] ∧ Exa Z h a1 kS0 ∧ Fld Z h a1 kS0 "head" "I" (.int 1) ∧ Fld Z h a1 kS0 "size" "I" (.int (z1 - (1 : Int32))) ∧ Fld Z h a1 kS0 "content" "D" (.double (if (z1 - (1 : Int32)) = (0 : Int32) then (0 : UInt64) else FP.dsub c1 d2)) ∧ Fld Z h a1 kS0 "agents" "[I" (.ref t0) ∧ Arv Z h t0 k0 .int (8 : Int32) vA (.int 0) ∧ Fld Z h a1 kS0 "legs" "[I" (.ref t1) ∧ Arv Z h t1 k1 .int (8 : Int32) vL (.int 0) ∧ Fld Z h a1 kS0 "amounts" "[D" (.ref t2) ∧ Arv Z h t2 k2 .double (8 : Int32) vD (.double (0 : UInt64)) ∧ Fld Z h a1 kS0 "rears" "[Z" (.ref t3) ∧ Arv Z h t3 k3 .boolean (8 : Int32) vR (.int 0)
theorem ef_rm_takef0 (m : MethodId) (x0 : Addr) (x1 : UInt64) : entryFrame m #[(.ref x0), (.double x1)] 3 = mkF m 0 (la4 x0 x1) [] := by first | rfl | (simp [entryFrame, mkF, argsToLocals, Value.category]; done)
set_option maxRecDepth 65536 in
set_option maxHeartbeats 40000000 in
theorem rm_takef0 (l : Launch) (Z : State) (a0 : Array Value) (hw : ∀ d ∈ tables_1, d.before a0 Z = true) (ws : List Jvm.Cond) (a1 : Addr) (d2 : UInt64) (z1 : Int32) (c1 : UInt64) (x1 : UInt64) (t0 : Addr) (k0 : ClassId) (vA : List Value) (t1 : Addr) (k1 : ClassId) (vL : List Value) (t2 : Addr) (k2 : ClassId) (vD : List Value) (t3 : Addr) (k3 : ClassId) (vR : List Value) (h0 : Heap) (n0 : Nat) (Z0 : n0 ≤ h0.size) (E1 : Exa Z h0 a1 kS0) (Fh : Fld Z h0 a1 kS0 "head" "I" (.int 0)) (Fs : Fld Z h0 a1 kS0 "size" "I" (.int z1)) (Fc : Fld Z h0 a1 kS0 "content" "D" (.double c1)) (F0 : Fld Z h0 a1 kS0 "agents" "[I" (.ref t0)) (V0 : Arv Z h0 t0 k0 .int (8 : Int32) vA (.int 0)) (F1 : Fld Z h0 a1 kS0 "legs" "[I" (.ref t1)) (V1 : Arv Z h0 t1 k1 .int (8 : Int32) vL (.int 0)) (F2 : Fld Z h0 a1 kS0 "amounts" "[D" (.ref t2)) (V2 : Arv Z h0 t2 k2 .double (8 : Int32) vD (.double (0 : UInt64))) (F3 : Fld Z h0 a1 kS0 "rears" "[Z" (.ref t3)) (V3 : Arv Z h0 t3 k3 .boolean (8 : Int32) vR (.int 0)) (len0 : vA.length = 8) (len1 : vL.length = 8) (len2 : vD.length = 8) (len3 : vR.length = 8) (o1 : LT.lt (α := Nat) a1 t0) (o2 : LT.lt (α := Nat) t0 t1) (o3 : LT.lt (α := Nat) t1 t2) (o4 : LT.lt (α := Nat) t2 t3) (g1 : n0 ≤ a1) (hx1 : vD.getD ((0 : Int32)).toNatClampNeg (.double (0 : UInt64)) = (.double x1)) (hcmp : ¬ ((cmpValue (FP.dcmp d2 x1) .l) < (0 : Int32))) (hn : Jvm.Free.Fl.NoNaN64 (FP.dsub c1 d2)) :
    MetFree l (⟨kS0, "takeFromHead", "(D)V"⟩ : MethodName) (head1 (Jvm.Cond.code (⟨kS0, "takeFromHead", "(D)V"⟩ : MethodName) prog_14_method_12_code 3 none :: ws) ({ frames := 0, cells := 0, slots := 0, locals := 0 } : Room)) (fun a U => a = #[(.ref a1), (.double d2)] ∧ Z.Warmed39 U.vm ∧ U.heap = h0) (fun _ _ _ _ _ => True) (fun _ U o U' => ∃ v L, o = .returned v ∧ Qrm_takef0 Z a1 d2 z1 c1 x1 t0 k0 vA t1 k1 vL t2 k2 vD t3 k3 vR h0 n0 v U'.heap L ∧ FrameEnd U o U' L ({ frames := 0, cells := 0, slots := 0, locals := 0 } : Room).cells ({ frames := 0, cells := 0, slots := 0, locals := 0 } : Room).slots) := by
  refine MetFree.of_bodySF (plainFor_of_name pn_0) hisR ?_
  intro p e s m args below meth c s₁ Bd hml0 hP hK
  obtain ⟨rfl, hZ, hh⟩ := hP
  have hx := Bd.exec
  have hby := Bd.bytes
  have hml : c.maxLocals = 3 := hml0
  have hown : s.vm.findClass kS0 = some m.cls := findClass_of_methodNamed Bd.named
  have hnm := (name_of_methodNamed Bd.named Bd.method).1
  have X0 : Stand p l e ({ frames := 0, cells := 0, slots := 0, locals := 0 } : Room) s m #[(.ref a1), (.double d2)] below meth c s₁ [] 0 0 := Stand.of_body Bd
  have e0 : s₁.heap = h0 := by rw [← hh, Bd.state]; rfl
  have N0 := Fr.nil n0
  have pre0 : ∀ t, Steps p.tables e below (s₁.setTop (mkF m 0 (la4 a1 d2) [])) t → Steps p.tables e below (s₁.setTop (entryFrame m #[(.ref a1), (.double d2)] 3)) t := fun t k => castTop (ef_rm_takef0 m a1 d2) k
  have lt_E1 := ltA E1.lt
  have lt_Fh := ltA Fh.lt
  have lt_Fs := ltA Fs.lt
  have lt_Fc := ltA Fc.lt
  have lt_F0 := ltA F0.lt
  have lt_V0 := ltA V0.lt
  have lt_F1 := ltA F1.lt
  have lt_V1 := ltA V1.lt
  have lt_F2 := ltA F2.lt
  have lt_V2 := ltA V2.lt
  have lt_F3 := ltA F3.lt
  have lt_V3 := ltA V3.lt
  obtain ⟨T231, X231, e231, st231⟩ := getF X0 hx hZ hown (host := "") (Or.inl (wd hw 20 rfl)) Via.refl e0 F2 (g := (mkF m 2 (la4 a1 d2) [(.ref a1), (.double d2)])) rfl rfl (hb hby d6_2)
  obtain ⟨T232, X232, e232, st232⟩ := getF X231 hx hZ hown (host := "") (Or.inl (wd hw 37 rfl)) Via.refl e231 Fh (g := (mkF m 6 (la4 a1 d2) [(.ref a1), (.ref t2), (.double d2)])) rfl rfl (hb hby d6_6)
  obtain ⟨cl233, Ar233, q233, S233, M233, H233, G233⟩ := id V2
  have hin233 : ¬ ((0 : Int32) < 0 ∨ cl233.slots.size ≤ ((0 : Int32)).toNatClampNeg) := inb_of S233 ⟨by decide, by decide⟩
  have hat233 : cl233.slots[((0 : Int32)).toNatClampNeg]? = some (.double x1) := Has.at H233 hin233 hx1
  obtain ⟨T234, X234, e234, st234⟩ := getF X232 hx hZ hown (host := "") (Or.inl (wd hw 37 rfl)) Via.refl e232 Fh (g := (mkF m 16 (la4 a1 d2) [(.ref a1), (.ref a1)])) rfl rfl (hb hby d6_16)
  obtain ⟨T235, X235, e235, st235⟩ := getF X234 hx hZ hown (host := "") (Or.inl (wd hw 15 rfl)) Via.refl e234 F0 (g := (mkF m 22 (la4 a1 d2) [(.ref a1), (.int 1), (.ref a1)])) rfl rfl (hb hby d6_22)
  obtain ⟨cl236, Ar236, -, S236, M236, -, -⟩ := id V0
  obtain ⟨T237, h237, X237, e237, W237, st237⟩ := putF X235 hx hZ hown (host := "") (Or.inl (wd hw 37 rfl)) Via.refl e235 Fh E1 (Or.inl (wd hw 38 rfl)) (wd hw 6 rfl) (ty := .int) (by decide) rfl rfl (g := (mkF m 29 (la4 a1 d2) [(.int 1), (.ref a1)])) rfl rfl (hb hby d6_29)
  have N237 := Fr.snoc X237 N0 (by omega : n0 ≤ a1)
  have sz237 : h0.size ≤ h237.size := Nat.le_of_eq W237.size.symm
  have f237 : Fld Z h237 a1 kS0 "head" "I" (.int 1) := Fh.same W237
  have f238 : Fld Z h237 a1 kS0 "size" "I" (.int z1) := (Fs.other W237 (Or.inr (slot_ne (Or.inl (wd hw 31 rfl)) (Or.inl (wd hw 38 rfl)) (by decide) (t := .int) (t' := .int) (by decide) (by decide))))
  obtain ⟨T239, X239, e239, st239⟩ := getF X237 hx hZ hown (host := "") (Or.inl (wd hw 30 rfl)) Via.refl e237 f238 (g := (mkF m 34 (la4 a1 d2) [(.ref a1), (.ref a1)])) rfl rfl (hb hby d6_34)
  have f240 : Exa Z h237 a1 kS0 := (E1.wr W237)
  obtain ⟨T241, h241, X241, e241, W241, st241⟩ := putF X239 hx hZ hown (host := "") (Or.inl (wd hw 30 rfl)) Via.refl e239 f238 f240 (Or.inl (wd hw 31 rfl)) (wd hw 6 rfl) (ty := .int) (by decide) rfl rfl (g := (mkF m 39 (la4 a1 d2) [(.int (z1 - (1 : Int32))), (.ref a1)])) rfl rfl (hb hby d6_39)
  have N241 := Fr.snoc X241 N237 (by omega : n0 ≤ a1)
  have sz241 : h237.size ≤ h241.size := Nat.le_of_eq W241.size.symm
  have f241 : Fld Z h241 a1 kS0 "size" "I" (.int (z1 - (1 : Int32))) := f238.same W241
  obtain ⟨T242, X242, e242, st242⟩ := getF X241 hx hZ hown (host := "") (Or.inl (wd hw 30 rfl)) Via.refl e241 f241 (g := (mkF m 60 (la4 a1 d2) [(.ref a1), (.ref a1)])) rfl rfl (hb hby d6_60)
  have pre243 : ∀ t, Steps p.tables e below (T242.setTop (mkF m 63 (la4 a1 d2) [(.int (z1 - (1 : Int32))), (.ref a1)])) t → Steps p.tables e below (s₁.setTop (entryFrame m #[(.ref a1), (.double d2)] 3)) t := by
    intro t kt
    refine pre0 t ?_
    show GO p e below s₁ (mkF m 0 (la4 a1 d2) []) _
    refine XS.dloadN X0.here hx rfl (hb hby d6_0) rfl ?_
    show GO p e below s₁ (mkF m 1 (la4 a1 d2) [(.double d2)]) _
    refine XS.aloadN X0.here hx rfl (hb hby d6_1) rfl rfl ?_
    show GO p e below s₁ (mkF m 2 (la4 a1 d2) [(.ref a1), (.double d2)]) _
    refine st231 _ ?_
    show GO p e below T231 (mkF m 5 (la4 a1 d2) [(.ref t2), (.double d2)]) _
    refine XS.aloadN X231.here hx rfl (hb hby d6_5) rfl rfl ?_
    show GO p e below T231 (mkF m 6 (la4 a1 d2) [(.ref a1), (.ref t2), (.double d2)]) _
    refine st232 _ ?_
    show GO p e below T232 (mkF m 9 (la4 a1 d2) [(.int 0), (.ref t2), (.double d2)]) _
    refine X232.daload hx (j := (0 : Int32)) (v := (.double x1)) (by rw [e232]; exact Ar233.1) (State.isArrayOf_alike hZ.alike Ar233.2.1) Ar233.2.2 hin233 hat233 (g := (mkF m 9 (la4 a1 d2) [(.int 0), (.ref t2), (.double d2)])) rfl rfl (hb hby d6_9) _ ?_
    show GO p e below T232 (mkF m 10 (la4 a1 d2) [(.double x1), (.double d2)]) _
    refine XS.dcmpS X232.here hx rfl (hb hby d6_10) rfl rfl ?_
    show GO p e below T232 (mkF m 11 (la4 a1 d2) [(.int (cmpValue (FP.dcmp d2 x1) .l))]) _
    refine XS.ifNo X232.here hx rfl (hb hby d6_11) rfl ((if0 _ _).trans (flt (hcmp : ¬ ((cmpValue (FP.dcmp d2 x1) .l) < (0 : Int32)))).1) ?_
    show GO p e below T232 (mkF m 14 (la4 a1 d2) []) _
    refine XS.aloadN X232.here hx rfl (hb hby d6_14) rfl rfl ?_
    show GO p e below T232 (mkF m 15 (la4 a1 d2) [(.ref a1)]) _
    refine XS.aloadN X232.here hx rfl (hb hby d6_15) rfl rfl ?_
    show GO p e below T232 (mkF m 16 (la4 a1 d2) [(.ref a1), (.ref a1)]) _
    refine st234 _ ?_
    show GO p e below T234 (mkF m 19 (la4 a1 d2) [(.int 0), (.ref a1)]) _
    refine XS.iconst X234.here hx rfl (hb hby d6_19) ?_
    show GO p e below T234 (mkF m 20 (la4 a1 d2) [(.int 1), (.int 0), (.ref a1)]) _
    refine XS.iadd X234.here hx rfl (hb hby d6_20) rfl ?_
    rw [show ((0 : Int32) + (1 : Int32)) = (1 : Int32) from by decide]
    show GO p e below T234 (mkF m 21 (la4 a1 d2) [(.int 1), (.ref a1)]) _
    refine XS.aloadN X234.here hx rfl (hb hby d6_21) rfl rfl ?_
    show GO p e below T234 (mkF m 22 (la4 a1 d2) [(.ref a1), (.int 1), (.ref a1)]) _
    refine st235 _ ?_
    show GO p e below T235 (mkF m 25 (la4 a1 d2) [(.ref t0), (.int 1), (.ref a1)]) _
    refine X235.arraylength hx (by rw [e235]; exact Ar236.1) (State.isArrayOf_alike hZ.alike Ar236.2.1) (g := (mkF m 25 (la4 a1 d2) [(.ref t0), (.int 1), (.ref a1)])) rfl rfl (hb hby d6_25) _ ?_
    rw [len_of S236 M236]
    show GO p e below T235 (mkF m 26 (la4 a1 d2) [(.int 8), (.int 1), (.ref a1)]) _
    refine XS.iconst X235.here hx rfl (hb hby d6_26) ?_
    show GO p e below T235 (mkF m 27 (la4 a1 d2) [(.int 1), (.int 8), (.int 1), (.ref a1)]) _
    refine XS.isub X235.here hx rfl (hb hby d6_27) rfl ?_
    rw [show ((8 : Int32) - (1 : Int32)) = (7 : Int32) from by decide]
    show GO p e below T235 (mkF m 28 (la4 a1 d2) [(.int 7), (.int 1), (.ref a1)]) _
    refine XS.iand X235.here hx rfl (hb hby d6_28) rfl ?_
    rw [show ((1 : Int32) &&& (7 : Int32)) = (1 : Int32) from by decide]
    show GO p e below T235 (mkF m 29 (la4 a1 d2) [(.int 1), (.ref a1)]) _
    refine st237 _ ?_
    show GO p e below T237 (mkF m 32 (la4 a1 d2) []) _
    refine XS.aloadN X237.here hx rfl (hb hby d6_32) rfl rfl ?_
    show GO p e below T237 (mkF m 33 (la4 a1 d2) [(.ref a1)]) _
    refine XS.dup X237.here hx rfl (hb hby d6_33) rfl rfl ?_
    show GO p e below T237 (mkF m 34 (la4 a1 d2) [(.ref a1), (.ref a1)]) _
    refine st239 _ ?_
    show GO p e below T239 (mkF m 37 (la4 a1 d2) [(.int z1), (.ref a1)]) _
    refine XS.iconst X239.here hx rfl (hb hby d6_37) ?_
    show GO p e below T239 (mkF m 38 (la4 a1 d2) [(.int 1), (.int z1), (.ref a1)]) _
    refine XS.isub X239.here hx rfl (hb hby d6_38) rfl ?_
    show GO p e below T239 (mkF m 39 (la4 a1 d2) [(.int (z1 - (1 : Int32))), (.ref a1)]) _
    refine st241 _ ?_
    show GO p e below T241 (mkF m 42 (la4 a1 d2) []) _
    refine XS.goto X241.here hx rfl (pc0 := 42) (pc' := 58) rfl (hb hby d6_42) (by decide) (by decide) ?_
    show GO p e below T241 (mkF m 58 (la4 a1 d2) []) _
    refine XS.aloadN X241.here hx rfl (hb hby d6_58) rfl rfl ?_
    show GO p e below T241 (mkF m 59 (la4 a1 d2) [(.ref a1)]) _
    refine XS.aloadN X241.here hx rfl (hb hby d6_59) rfl rfl ?_
    show GO p e below T241 (mkF m 60 (la4 a1 d2) [(.ref a1), (.ref a1)]) _
    refine st242 _ ?_
    exact kt
  by_cases hb244 : (z1 - (1 : Int32)) = (0 : Int32)
  · have f245 : Fld Z h241 a1 kS0 "content" "D" (.double c1) := ((Fc.other W237 (Or.inr (slot_ne (Or.inl (wd hw 40 rfl)) (Or.inl (wd hw 38 rfl)) (by decide) (t := .double) (t' := .int) (by decide) (by decide)))).other W241 (Or.inr (slot_ne (Or.inl (wd hw 40 rfl)) (Or.inl (wd hw 31 rfl)) (by decide) (t := .double) (t' := .int) (by decide) (by decide))))
    have f246 : Exa Z h241 a1 kS0 := (f240.wr W241)
    obtain ⟨T247, h247, X247, e247, W247, st247⟩ := putF X242 hx hZ hown (host := "") (Or.inl (wd hw 39 rfl)) Via.refl e242 f245 f246 (Or.inl (wd hw 40 rfl)) (wd hw 6 rfl) (ty := .double) (by decide) rfl rfl (g := (mkF m 76 (la4 a1 d2) [(.double FP.dconst0), (.ref a1)])) rfl rfl (hb hby d6_76)
    have N247 := Fr.snoc X247 N241 (by omega : n0 ≤ a1)
    have sz247 : h241.size ≤ h247.size := Nat.le_of_eq W247.size.symm
    have f247 : Fld Z h247 a1 kS0 "content" "D" (.double FP.dconst0) := f245.same W247
    have f248 : Fld Z h247 a1 kS0 "content" "D" (.double (if (z1 - (1 : Int32)) = (0 : Int32) then (0 : UInt64) else FP.dsub c1 d2)) := by
      have q := f247
      rw [if_pos hb244]
      exact q
    have f249 : Exa Z h247 a1 kS0 := (f246.wr W247)
    have f250 : Fld Z h247 a1 kS0 "head" "I" (.int 1) := ((f237.other W241 (Or.inr (slot_ne (Or.inl (wd hw 38 rfl)) (Or.inl (wd hw 31 rfl)) (by decide) (t := .int) (t' := .int) (by decide) (by decide)))).other W247 (Or.inr (slot_ne (Or.inl (wd hw 38 rfl)) (Or.inl (wd hw 40 rfl)) (by decide) (t := .int) (t' := .double) (by decide) (by decide))))
    have f251 : Fld Z h247 a1 kS0 "size" "I" (.int (z1 - (1 : Int32))) := (f241.other W247 (Or.inr (slot_ne (Or.inl (wd hw 31 rfl)) (Or.inl (wd hw 40 rfl)) (by decide) (t := .int) (t' := .double) (by decide) (by decide))))
    have f252 : Fld Z h247 a1 kS0 "agents" "[I" (.ref t0) := (((F0.other W237 (Or.inr (slot_ne (Or.inl (wd hw 16 rfl)) (Or.inl (wd hw 38 rfl)) (by decide) (t := (.array .int)) (t' := .int) (by decide) (by decide)))).other W241 (Or.inr (slot_ne (Or.inl (wd hw 16 rfl)) (Or.inl (wd hw 31 rfl)) (by decide) (t := (.array .int)) (t' := .int) (by decide) (by decide)))).other W247 (Or.inr (slot_ne (Or.inl (wd hw 16 rfl)) (Or.inl (wd hw 40 rfl)) (by decide) (t := (.array .int)) (t' := .double) (by decide) (by decide))))
    have f253 : Arv Z h247 t0 k0 .int (8 : Int32) vA (.int 0) := (((V0.other W237 (neN (by omega))).other W241 (neN (by omega))).other W247 (neN (by omega)))
    have f254 : Fld Z h247 a1 kS0 "legs" "[I" (.ref t1) := (((F1.other W237 (Or.inr (slot_ne (Or.inl (wd hw 18 rfl)) (Or.inl (wd hw 38 rfl)) (by decide) (t := (.array .int)) (t' := .int) (by decide) (by decide)))).other W241 (Or.inr (slot_ne (Or.inl (wd hw 18 rfl)) (Or.inl (wd hw 31 rfl)) (by decide) (t := (.array .int)) (t' := .int) (by decide) (by decide)))).other W247 (Or.inr (slot_ne (Or.inl (wd hw 18 rfl)) (Or.inl (wd hw 40 rfl)) (by decide) (t := (.array .int)) (t' := .double) (by decide) (by decide))))
    have f255 : Arv Z h247 t1 k1 .int (8 : Int32) vL (.int 0) := (((V1.other W237 (neN (by omega))).other W241 (neN (by omega))).other W247 (neN (by omega)))
    have f256 : Fld Z h247 a1 kS0 "amounts" "[D" (.ref t2) := (((F2.other W237 (Or.inr (slot_ne (Or.inl (wd hw 21 rfl)) (Or.inl (wd hw 38 rfl)) (by decide) (t := (.array .double)) (t' := .int) (by decide) (by decide)))).other W241 (Or.inr (slot_ne (Or.inl (wd hw 21 rfl)) (Or.inl (wd hw 31 rfl)) (by decide) (t := (.array .double)) (t' := .int) (by decide) (by decide)))).other W247 (Or.inr (slot_ne (Or.inl (wd hw 21 rfl)) (Or.inl (wd hw 40 rfl)) (by decide) (t := (.array .double)) (t' := .double) (by decide) (by decide))))
    have f257 : Arv Z h247 t2 k2 .double (8 : Int32) vD (.double (0 : UInt64)) := (((V2.other W237 (neN (by omega))).other W241 (neN (by omega))).other W247 (neN (by omega)))
    have f258 : Fld Z h247 a1 kS0 "rears" "[Z" (.ref t3) := (((F3.other W237 (Or.inr (slot_ne (Or.inl (wd hw 24 rfl)) (Or.inl (wd hw 38 rfl)) (by decide) (t := (.array .boolean)) (t' := .int) (by decide) (by decide)))).other W241 (Or.inr (slot_ne (Or.inl (wd hw 24 rfl)) (Or.inl (wd hw 31 rfl)) (by decide) (t := (.array .boolean)) (t' := .int) (by decide) (by decide)))).other W247 (Or.inr (slot_ne (Or.inl (wd hw 24 rfl)) (Or.inl (wd hw 40 rfl)) (by decide) (t := (.array .boolean)) (t' := .double) (by decide) (by decide))))
    have f259 : Arv Z h247 t3 k3 .boolean (8 : Int32) vR (.int 0) := (((V3.other W237 (neN (by omega))).other W241 (neN (by omega))).other W247 (neN (by omega)))
    obtain ⟨fs, hr, hrun, hended, hW, hsame⟩ := X247.leave (v := none) (fun _ => rfl)
    refine ⟨_, _, pre243 _ ?_, hrun, hended, _, _, rfl, ?_, ⟨_, rfl⟩, hW, hsame.mono (by decide) (by decide)⟩
    · show GO p e below T242 (mkF m 63 (la4 a1 d2) [(.int (z1 - (1 : Int32))), (.ref a1)]) _
      refine XS.ifNo X242.here hx rfl (hb hby d6_63) rfl ((if0 _ _).trans (teq (hb244 : (z1 - (1 : Int32)) = (0 : Int32))).2) ?_
      show GO p e below T242 (mkF m 66 (la4 a1 d2) [(.ref a1)]) _
      refine XS.dconst0 X242.here hx rfl (hb hby d6_66) rfl ?_
      show GO p e below T242 (mkF m 67 (la4 a1 d2) [(.double FP.dconst0), (.ref a1)]) _
      refine XS.goto X242.here hx rfl (pc0 := 67) (pc' := 76) rfl (hb hby d6_67) (by decide) (by decide) ?_
      show GO p e below T242 (mkF m 76 (la4 a1 d2) [(.double FP.dconst0), (.ref a1)]) _
      refine st247 _ ?_
      show GO p e below T247 (mkF m 79 (la4 a1 d2) []) _
      exact X247.returnOut hx Bd.returns (hb hby d6_79) hr
    · show Qrm_takef0 Z a1 d2 z1 c1 x1 t0 k0 vA t1 k1 vL t2 k2 vD t3 k3 vR h0 n0 _ T247.heap _
      rw [e247]
      exact ⟨rfl, N247, ((((Keep.refl h0 [a1, t0, t1, t2, t3]).wr W237 (Or.inl (List.mem_of_getElem? (i := 0) rfl))).wr W241 (Or.inl (List.mem_of_getElem? (i := 0) rfl))).wr W247 (Or.inl (List.mem_of_getElem? (i := 0) rfl))), f249, f250, f251, f248, f252, f253, f254, f255, f256, f257, f258, f259⟩
  · have f260 : Fld Z h241 a1 kS0 "content" "D" (.double c1) := ((Fc.other W237 (Or.inr (slot_ne (Or.inl (wd hw 40 rfl)) (Or.inl (wd hw 38 rfl)) (by decide) (t := .double) (t' := .int) (by decide) (by decide)))).other W241 (Or.inr (slot_ne (Or.inl (wd hw 40 rfl)) (Or.inl (wd hw 31 rfl)) (by decide) (t := .double) (t' := .int) (by decide) (by decide))))
    obtain ⟨T261, X261, e261, st261⟩ := getF X242 hx hZ hown (host := "") (Or.inl (wd hw 39 rfl)) Via.refl e242 f260 (g := (mkF m 71 (la4 a1 d2) [(.ref a1), (.ref a1)])) rfl rfl (hb hby d6_71)
    have f262 : Exa Z h241 a1 kS0 := (f240.wr W241)
    obtain ⟨T263, h263, X263, e263, W263, st263⟩ := putF X261 hx hZ hown (host := "") (Or.inl (wd hw 39 rfl)) Via.refl e261 f260 f262 (Or.inl (wd hw 40 rfl)) (wd hw 6 rfl) (ty := .double) (by decide) rfl rfl (g := (mkF m 76 (la4 a1 d2) [(.double (FP.dsub c1 d2)), (.ref a1)])) rfl rfl (hb hby d6_76)
    have N263 := Fr.snoc X263 N241 (by omega : n0 ≤ a1)
    have sz263 : h241.size ≤ h263.size := Nat.le_of_eq W263.size.symm
    have f263 : Fld Z h263 a1 kS0 "content" "D" (.double (FP.dsub c1 d2)) := f260.same W263
    have f264 : Fld Z h263 a1 kS0 "content" "D" (.double (if (z1 - (1 : Int32)) = (0 : Int32) then (0 : UInt64) else FP.dsub c1 d2)) := by
      have q := f263
      rw [if_neg hb244]
      exact q
    have f265 : Exa Z h263 a1 kS0 := (f262.wr W263)
    have f266 : Fld Z h263 a1 kS0 "head" "I" (.int 1) := ((f237.other W241 (Or.inr (slot_ne (Or.inl (wd hw 38 rfl)) (Or.inl (wd hw 31 rfl)) (by decide) (t := .int) (t' := .int) (by decide) (by decide)))).other W263 (Or.inr (slot_ne (Or.inl (wd hw 38 rfl)) (Or.inl (wd hw 40 rfl)) (by decide) (t := .int) (t' := .double) (by decide) (by decide))))
    have f267 : Fld Z h263 a1 kS0 "size" "I" (.int (z1 - (1 : Int32))) := (f241.other W263 (Or.inr (slot_ne (Or.inl (wd hw 31 rfl)) (Or.inl (wd hw 40 rfl)) (by decide) (t := .int) (t' := .double) (by decide) (by decide))))
    have f268 : Fld Z h263 a1 kS0 "agents" "[I" (.ref t0) := (((F0.other W237 (Or.inr (slot_ne (Or.inl (wd hw 16 rfl)) (Or.inl (wd hw 38 rfl)) (by decide) (t := (.array .int)) (t' := .int) (by decide) (by decide)))).other W241 (Or.inr (slot_ne (Or.inl (wd hw 16 rfl)) (Or.inl (wd hw 31 rfl)) (by decide) (t := (.array .int)) (t' := .int) (by decide) (by decide)))).other W263 (Or.inr (slot_ne (Or.inl (wd hw 16 rfl)) (Or.inl (wd hw 40 rfl)) (by decide) (t := (.array .int)) (t' := .double) (by decide) (by decide))))
    have f269 : Arv Z h263 t0 k0 .int (8 : Int32) vA (.int 0) := (((V0.other W237 (neN (by omega))).other W241 (neN (by omega))).other W263 (neN (by omega)))
    have f270 : Fld Z h263 a1 kS0 "legs" "[I" (.ref t1) := (((F1.other W237 (Or.inr (slot_ne (Or.inl (wd hw 18 rfl)) (Or.inl (wd hw 38 rfl)) (by decide) (t := (.array .int)) (t' := .int) (by decide) (by decide)))).other W241 (Or.inr (slot_ne (Or.inl (wd hw 18 rfl)) (Or.inl (wd hw 31 rfl)) (by decide) (t := (.array .int)) (t' := .int) (by decide) (by decide)))).other W263 (Or.inr (slot_ne (Or.inl (wd hw 18 rfl)) (Or.inl (wd hw 40 rfl)) (by decide) (t := (.array .int)) (t' := .double) (by decide) (by decide))))
    have f271 : Arv Z h263 t1 k1 .int (8 : Int32) vL (.int 0) := (((V1.other W237 (neN (by omega))).other W241 (neN (by omega))).other W263 (neN (by omega)))
    have f272 : Fld Z h263 a1 kS0 "amounts" "[D" (.ref t2) := (((F2.other W237 (Or.inr (slot_ne (Or.inl (wd hw 21 rfl)) (Or.inl (wd hw 38 rfl)) (by decide) (t := (.array .double)) (t' := .int) (by decide) (by decide)))).other W241 (Or.inr (slot_ne (Or.inl (wd hw 21 rfl)) (Or.inl (wd hw 31 rfl)) (by decide) (t := (.array .double)) (t' := .int) (by decide) (by decide)))).other W263 (Or.inr (slot_ne (Or.inl (wd hw 21 rfl)) (Or.inl (wd hw 40 rfl)) (by decide) (t := (.array .double)) (t' := .double) (by decide) (by decide))))
    have f273 : Arv Z h263 t2 k2 .double (8 : Int32) vD (.double (0 : UInt64)) := (((V2.other W237 (neN (by omega))).other W241 (neN (by omega))).other W263 (neN (by omega)))
    have f274 : Fld Z h263 a1 kS0 "rears" "[Z" (.ref t3) := (((F3.other W237 (Or.inr (slot_ne (Or.inl (wd hw 24 rfl)) (Or.inl (wd hw 38 rfl)) (by decide) (t := (.array .boolean)) (t' := .int) (by decide) (by decide)))).other W241 (Or.inr (slot_ne (Or.inl (wd hw 24 rfl)) (Or.inl (wd hw 31 rfl)) (by decide) (t := (.array .boolean)) (t' := .int) (by decide) (by decide)))).other W263 (Or.inr (slot_ne (Or.inl (wd hw 24 rfl)) (Or.inl (wd hw 40 rfl)) (by decide) (t := (.array .boolean)) (t' := .double) (by decide) (by decide))))
    have f275 : Arv Z h263 t3 k3 .boolean (8 : Int32) vR (.int 0) := (((V3.other W237 (neN (by omega))).other W241 (neN (by omega))).other W263 (neN (by omega)))
    obtain ⟨fs, hr, hrun, hended, hW, hsame⟩ := X263.leave (v := none) (fun _ => rfl)
    refine ⟨_, _, pre243 _ ?_, hrun, hended, _, _, rfl, ?_, ⟨_, rfl⟩, hW, hsame.mono (by decide) (by decide)⟩
    · show GO p e below T242 (mkF m 63 (la4 a1 d2) [(.int (z1 - (1 : Int32))), (.ref a1)]) _
      refine XS.ifYes X242.here hx rfl (pc0 := 63) (pc' := 70) rfl (hb hby d6_63) rfl ((if0 _ _).trans (feq (hb244 : ¬ ((z1 - (1 : Int32)) = (0 : Int32)))).2) (by decide) (by decide) ?_
      show GO p e below T242 (mkF m 70 (la4 a1 d2) [(.ref a1)]) _
      refine XS.aloadN X242.here hx rfl (hb hby d6_70) rfl rfl ?_
      show GO p e below T242 (mkF m 71 (la4 a1 d2) [(.ref a1), (.ref a1)]) _
      refine st261 _ ?_
      show GO p e below T261 (mkF m 74 (la4 a1 d2) [(.double c1), (.ref a1)]) _
      refine XS.dloadN X261.here hx rfl (hb hby d6_74) rfl ?_
      show GO p e below T261 (mkF m 75 (la4 a1 d2) [(.double d2), (.double c1), (.ref a1)]) _
      refine XS.dsubS X261.here hx rfl (hb hby d6_75) rfl hn rfl ?_
      show GO p e below T261 (mkF m 76 (la4 a1 d2) [(.double (FP.dsub c1 d2)), (.ref a1)]) _
      refine st263 _ ?_
      show GO p e below T263 (mkF m 79 (la4 a1 d2) []) _
      exact X263.returnOut hx Bd.returns (hb hby d6_79) hr
    · show Qrm_takef0 Z a1 d2 z1 c1 x1 t0 k0 vA t1 k1 vL t2 k2 vD t3 k3 vR h0 n0 _ T263.heap _
      rw [e263]
      exact ⟨rfl, N263, ((((Keep.refl h0 [a1, t0, t1, t2, t3]).wr W237 (Or.inl (List.mem_of_getElem? (i := 0) rfl))).wr W241 (Or.inl (List.mem_of_getElem? (i := 0) rfl))).wr W263 (Or.inl (List.mem_of_getElem? (i := 0) rfl))), f265, f266, f267, f264, f268, f269, f270, f271, f272, f273, f274, f275⟩
def Qrm_takef1 (Z : State) (a1 : Addr) (d2 : UInt64) (z1 : Int32) (c1 : UInt64) (x1 : UInt64) (t0 : Addr) (k0 : ClassId) (vA : List Value) (t1 : Addr) (k1 : ClassId) (vL : List Value) (t2 : Addr) (k2 : ClassId) (vD : List Value) (t3 : Addr) (k3 : ClassId) (vR : List Value) (h0 : Heap) (n0 : Nat) (v : Option Value) (h : Heap) (L : List Loc) : Prop := v = none ∧ Fr n0 L ∧ Keep h0 h [a1, t0, t1, t2, t3] ∧ Exa Z h a1 kS0 ∧ Fld Z h a1 kS0 "head" "I" (.int 2) ∧ Fld Z h a1 kS0 "size" "I" (.int (z1 - (1 : Int32))) ∧ Fld Z h a1 kS0 "content" "D" (.double (if (z1 - (1 : Int32)) = (0 : Int32) then (0 : UInt64) else FP.dsub c1 d2)) ∧ Fld Z h a1 kS0 "agents" "[I" (.ref t0) ∧ Arv Z h t0 k0 .int (8 : Int32) vA (.int 0) ∧ Fld Z h a1 kS0 "legs" "[I" (.ref t1) ∧ Arv Z h t1 k1 .int (8 : Int32) vL (.int 0) ∧ Fld Z h a1 kS0 "amounts" "[D" (.ref t2) ∧ Arv Z h t2 k2 .double (8 : Int32) vD (.double (0 : UInt64)) ∧ Fld Z h a1 kS0 "rears" "[Z" (.ref t3) ∧ Arv Z h t3 k3 .boolean (8 : Int32) vR (.int 0)
theorem ef_rm_takef1 (m : MethodId) (x0 : Addr) (x1 : UInt64) : entryFrame m #[(.ref x0), (.double x1)] 3 = mkF m 0 (la4 x0 x1) [] := by first | rfl | (simp [entryFrame, mkF, argsToLocals, Value.category]; done)
set_option maxRecDepth 65536 in
set_option maxHeartbeats 40000000 in
theorem rm_takef1 (l : Launch) (Z : State) (a0 : Array Value) (hw : ∀ d ∈ tables_1, d.before a0 Z = true) (ws : List Jvm.Cond) (a1 : Addr) (d2 : UInt64) (z1 : Int32) (c1 : UInt64) (x1 : UInt64) (t0 : Addr) (k0 : ClassId) (vA : List Value) (t1 : Addr) (k1 : ClassId) (vL : List Value) (t2 : Addr) (k2 : ClassId) (vD : List Value) (t3 : Addr) (k3 : ClassId) (vR : List Value) (h0 : Heap) (n0 : Nat) (Z0 : n0 ≤ h0.size) (E1 : Exa Z h0 a1 kS0) (Fh : Fld Z h0 a1 kS0 "head" "I" (.int 1)) (Fs : Fld Z h0 a1 kS0 "size" "I" (.int z1)) (Fc : Fld Z h0 a1 kS0 "content" "D" (.double c1)) (F0 : Fld Z h0 a1 kS0 "agents" "[I" (.ref t0)) (V0 : Arv Z h0 t0 k0 .int (8 : Int32) vA (.int 0)) (F1 : Fld Z h0 a1 kS0 "legs" "[I" (.ref t1)) (V1 : Arv Z h0 t1 k1 .int (8 : Int32) vL (.int 0)) (F2 : Fld Z h0 a1 kS0 "amounts" "[D" (.ref t2)) (V2 : Arv Z h0 t2 k2 .double (8 : Int32) vD (.double (0 : UInt64))) (F3 : Fld Z h0 a1 kS0 "rears" "[Z" (.ref t3)) (V3 : Arv Z h0 t3 k3 .boolean (8 : Int32) vR (.int 0)) (len0 : vA.length = 8) (len1 : vL.length = 8) (len2 : vD.length = 8) (len3 : vR.length = 8) (o1 : LT.lt (α := Nat) a1 t0) (o2 : LT.lt (α := Nat) t0 t1) (o3 : LT.lt (α := Nat) t1 t2) (o4 : LT.lt (α := Nat) t2 t3) (g1 : n0 ≤ a1) (hx1 : vD.getD ((1 : Int32)).toNatClampNeg (.double (0 : UInt64)) = (.double x1)) (hcmp : ¬ ((cmpValue (FP.dcmp d2 x1) .l) < (0 : Int32))) (hn : Jvm.Free.Fl.NoNaN64 (FP.dsub c1 d2)) :
    MetFree l (⟨kS0, "takeFromHead", "(D)V"⟩ : MethodName) (head1 (Jvm.Cond.code (⟨kS0, "takeFromHead", "(D)V"⟩ : MethodName) prog_14_method_12_code 3 none :: ws) ({ frames := 0, cells := 0, slots := 0, locals := 0 } : Room)) (fun a U => a = #[(.ref a1), (.double d2)] ∧ Z.Warmed39 U.vm ∧ U.heap = h0) (fun _ _ _ _ _ => True) (fun _ U o U' => ∃ v L, o = .returned v ∧ Qrm_takef1 Z a1 d2 z1 c1 x1 t0 k0 vA t1 k1 vL t2 k2 vD t3 k3 vR h0 n0 v U'.heap L ∧ FrameEnd U o U' L ({ frames := 0, cells := 0, slots := 0, locals := 0 } : Room).cells ({ frames := 0, cells := 0, slots := 0, locals := 0 } : Room).slots) := by
  refine MetFree.of_bodySF (plainFor_of_name pn_0) hisR ?_
  intro p e s m args below meth c s₁ Bd hml0 hP hK
  obtain ⟨rfl, hZ, hh⟩ := hP
  have hx := Bd.exec
  have hby := Bd.bytes
  have hml : c.maxLocals = 3 := hml0
  have hown : s.vm.findClass kS0 = some m.cls := findClass_of_methodNamed Bd.named
  have hnm := (name_of_methodNamed Bd.named Bd.method).1
  have X0 : Stand p l e ({ frames := 0, cells := 0, slots := 0, locals := 0 } : Room) s m #[(.ref a1), (.double d2)] below meth c s₁ [] 0 0 := Stand.of_body Bd
  have e0 : s₁.heap = h0 := by rw [← hh, Bd.state]; rfl
  have N0 := Fr.nil n0
  have pre0 : ∀ t, Steps p.tables e below (s₁.setTop (mkF m 0 (la4 a1 d2) [])) t → Steps p.tables e below (s₁.setTop (entryFrame m #[(.ref a1), (.double d2)] 3)) t := fun t k => castTop (ef_rm_takef1 m a1 d2) k
  have lt_E1 := ltA E1.lt
  have lt_Fh := ltA Fh.lt
  have lt_Fs := ltA Fs.lt
  have lt_Fc := ltA Fc.lt
  have lt_F0 := ltA F0.lt
  have lt_V0 := ltA V0.lt
  have lt_F1 := ltA F1.lt
  have lt_V1 := ltA V1.lt
  have lt_F2 := ltA F2.lt
  have lt_V2 := ltA V2.lt
  have lt_F3 := ltA F3.lt
  have lt_V3 := ltA V3.lt
  obtain ⟨T276, X276, e276, st276⟩ := getF X0 hx hZ hown (host := "") (Or.inl (wd hw 20 rfl)) Via.refl e0 F2 (g := (mkF m 2 (la4 a1 d2) [(.ref a1), (.double d2)])) rfl rfl (hb hby d6_2)
  obtain ⟨T277, X277, e277, st277⟩ := getF X276 hx hZ hown (host := "") (Or.inl (wd hw 37 rfl)) Via.refl e276 Fh (g := (mkF m 6 (la4 a1 d2) [(.ref a1), (.ref t2), (.double d2)])) rfl rfl (hb hby d6_6)
  obtain ⟨cl278, Ar278, q278, S278, M278, H278, G278⟩ := id V2
  have hin278 : ¬ ((1 : Int32) < 0 ∨ cl278.slots.size ≤ ((1 : Int32)).toNatClampNeg) := inb_of S278 ⟨by decide, by decide⟩
  have hat278 : cl278.slots[((1 : Int32)).toNatClampNeg]? = some (.double x1) := Has.at H278 hin278 hx1
  obtain ⟨T279, X279, e279, st279⟩ := getF X277 hx hZ hown (host := "") (Or.inl (wd hw 37 rfl)) Via.refl e277 Fh (g := (mkF m 16 (la4 a1 d2) [(.ref a1), (.ref a1)])) rfl rfl (hb hby d6_16)
  obtain ⟨T280, X280, e280, st280⟩ := getF X279 hx hZ hown (host := "") (Or.inl (wd hw 15 rfl)) Via.refl e279 F0 (g := (mkF m 22 (la4 a1 d2) [(.ref a1), (.int 2), (.ref a1)])) rfl rfl (hb hby d6_22)
  obtain ⟨cl281, Ar281, -, S281, M281, -, -⟩ := id V0
  obtain ⟨T282, h282, X282, e282, W282, st282⟩ := putF X280 hx hZ hown (host := "") (Or.inl (wd hw 37 rfl)) Via.refl e280 Fh E1 (Or.inl (wd hw 38 rfl)) (wd hw 6 rfl) (ty := .int) (by decide) rfl rfl (g := (mkF m 29 (la4 a1 d2) [(.int 2), (.ref a1)])) rfl rfl (hb hby d6_29)
  have N282 := Fr.snoc X282 N0 (by omega : n0 ≤ a1)
  have sz282 : h0.size ≤ h282.size := Nat.le_of_eq W282.size.symm
  have f282 : Fld Z h282 a1 kS0 "head" "I" (.int 2) := Fh.same W282
  have f283 : Fld Z h282 a1 kS0 "size" "I" (.int z1) := (Fs.other W282 (Or.inr (slot_ne (Or.inl (wd hw 31 rfl)) (Or.inl (wd hw 38 rfl)) (by decide) (t := .int) (t' := .int) (by decide) (by decide))))
  obtain ⟨T284, X284, e284, st284⟩ := getF X282 hx hZ hown (host := "") (Or.inl (wd hw 30 rfl)) Via.refl e282 f283 (g := (mkF m 34 (la4 a1 d2) [(.ref a1), (.ref a1)])) rfl rfl (hb hby d6_34)
  have f285 : Exa Z h282 a1 kS0 := (E1.wr W282)
  obtain ⟨T286, h286, X286, e286, W286, st286⟩ := putF X284 hx hZ hown (host := "") (Or.inl (wd hw 30 rfl)) Via.refl e284 f283 f285 (Or.inl (wd hw 31 rfl)) (wd hw 6 rfl) (ty := .int) (by decide) rfl rfl (g := (mkF m 39 (la4 a1 d2) [(.int (z1 - (1 : Int32))), (.ref a1)])) rfl rfl (hb hby d6_39)
  have N286 := Fr.snoc X286 N282 (by omega : n0 ≤ a1)
  have sz286 : h282.size ≤ h286.size := Nat.le_of_eq W286.size.symm
  have f286 : Fld Z h286 a1 kS0 "size" "I" (.int (z1 - (1 : Int32))) := f283.same W286
  obtain ⟨T287, X287, e287, st287⟩ := getF X286 hx hZ hown (host := "") (Or.inl (wd hw 30 rfl)) Via.refl e286 f286 (g := (mkF m 60 (la4 a1 d2) [(.ref a1), (.ref a1)])) rfl rfl (hb hby d6_60)
  have pre288 : ∀ t, Steps p.tables e below (T287.setTop (mkF m 63 (la4 a1 d2) [(.int (z1 - (1 : Int32))), (.ref a1)])) t → Steps p.tables e below (s₁.setTop (entryFrame m #[(.ref a1), (.double d2)] 3)) t := by
    intro t kt
    refine pre0 t ?_
    show GO p e below s₁ (mkF m 0 (la4 a1 d2) []) _
    refine XS.dloadN X0.here hx rfl (hb hby d6_0) rfl ?_
    show GO p e below s₁ (mkF m 1 (la4 a1 d2) [(.double d2)]) _
    refine XS.aloadN X0.here hx rfl (hb hby d6_1) rfl rfl ?_
    show GO p e below s₁ (mkF m 2 (la4 a1 d2) [(.ref a1), (.double d2)]) _
    refine st276 _ ?_
    show GO p e below T276 (mkF m 5 (la4 a1 d2) [(.ref t2), (.double d2)]) _
    refine XS.aloadN X276.here hx rfl (hb hby d6_5) rfl rfl ?_
    show GO p e below T276 (mkF m 6 (la4 a1 d2) [(.ref a1), (.ref t2), (.double d2)]) _
    refine st277 _ ?_
    show GO p e below T277 (mkF m 9 (la4 a1 d2) [(.int 1), (.ref t2), (.double d2)]) _
    refine X277.daload hx (j := (1 : Int32)) (v := (.double x1)) (by rw [e277]; exact Ar278.1) (State.isArrayOf_alike hZ.alike Ar278.2.1) Ar278.2.2 hin278 hat278 (g := (mkF m 9 (la4 a1 d2) [(.int 1), (.ref t2), (.double d2)])) rfl rfl (hb hby d6_9) _ ?_
    show GO p e below T277 (mkF m 10 (la4 a1 d2) [(.double x1), (.double d2)]) _
    refine XS.dcmpS X277.here hx rfl (hb hby d6_10) rfl rfl ?_
    show GO p e below T277 (mkF m 11 (la4 a1 d2) [(.int (cmpValue (FP.dcmp d2 x1) .l))]) _
    refine XS.ifNo X277.here hx rfl (hb hby d6_11) rfl ((if0 _ _).trans (flt (hcmp : ¬ ((cmpValue (FP.dcmp d2 x1) .l) < (0 : Int32)))).1) ?_
    show GO p e below T277 (mkF m 14 (la4 a1 d2) []) _
    refine XS.aloadN X277.here hx rfl (hb hby d6_14) rfl rfl ?_
    show GO p e below T277 (mkF m 15 (la4 a1 d2) [(.ref a1)]) _
    refine XS.aloadN X277.here hx rfl (hb hby d6_15) rfl rfl ?_
    show GO p e below T277 (mkF m 16 (la4 a1 d2) [(.ref a1), (.ref a1)]) _
    refine st279 _ ?_
    show GO p e below T279 (mkF m 19 (la4 a1 d2) [(.int 1), (.ref a1)]) _
    refine XS.iconst X279.here hx rfl (hb hby d6_19) ?_
    show GO p e below T279 (mkF m 20 (la4 a1 d2) [(.int 1), (.int 1), (.ref a1)]) _
    refine XS.iadd X279.here hx rfl (hb hby d6_20) rfl ?_
    rw [show ((1 : Int32) + (1 : Int32)) = (2 : Int32) from by decide]
    show GO p e below T279 (mkF m 21 (la4 a1 d2) [(.int 2), (.ref a1)]) _
    refine XS.aloadN X279.here hx rfl (hb hby d6_21) rfl rfl ?_
    show GO p e below T279 (mkF m 22 (la4 a1 d2) [(.ref a1), (.int 2), (.ref a1)]) _
    refine st280 _ ?_
    show GO p e below T280 (mkF m 25 (la4 a1 d2) [(.ref t0), (.int 2), (.ref a1)]) _
    refine X280.arraylength hx (by rw [e280]; exact Ar281.1) (State.isArrayOf_alike hZ.alike Ar281.2.1) (g := (mkF m 25 (la4 a1 d2) [(.ref t0), (.int 2), (.ref a1)])) rfl rfl (hb hby d6_25) _ ?_
    rw [len_of S281 M281]
    show GO p e below T280 (mkF m 26 (la4 a1 d2) [(.int 8), (.int 2), (.ref a1)]) _
    refine XS.iconst X280.here hx rfl (hb hby d6_26) ?_
    show GO p e below T280 (mkF m 27 (la4 a1 d2) [(.int 1), (.int 8), (.int 2), (.ref a1)]) _
    refine XS.isub X280.here hx rfl (hb hby d6_27) rfl ?_
    rw [show ((8 : Int32) - (1 : Int32)) = (7 : Int32) from by decide]
    show GO p e below T280 (mkF m 28 (la4 a1 d2) [(.int 7), (.int 2), (.ref a1)]) _
    refine XS.iand X280.here hx rfl (hb hby d6_28) rfl ?_
    rw [show ((2 : Int32) &&& (7 : Int32)) = (2 : Int32) from by decide]
    show GO p e below T280 (mkF m 29 (la4 a1 d2) [(.int 2), (.ref a1)]) _
    refine st282 _ ?_
    show GO p e below T282 (mkF m 32 (la4 a1 d2) []) _
    refine XS.aloadN X282.here hx rfl (hb hby d6_32) rfl rfl ?_
    show GO p e below T282 (mkF m 33 (la4 a1 d2) [(.ref a1)]) _
    refine XS.dup X282.here hx rfl (hb hby d6_33) rfl rfl ?_
    show GO p e below T282 (mkF m 34 (la4 a1 d2) [(.ref a1), (.ref a1)]) _
    refine st284 _ ?_
    show GO p e below T284 (mkF m 37 (la4 a1 d2) [(.int z1), (.ref a1)]) _
    refine XS.iconst X284.here hx rfl (hb hby d6_37) ?_
    show GO p e below T284 (mkF m 38 (la4 a1 d2) [(.int 1), (.int z1), (.ref a1)]) _
    refine XS.isub X284.here hx rfl (hb hby d6_38) rfl ?_
    show GO p e below T284 (mkF m 39 (la4 a1 d2) [(.int (z1 - (1 : Int32))), (.ref a1)]) _
    refine st286 _ ?_
    show GO p e below T286 (mkF m 42 (la4 a1 d2) []) _
    refine XS.goto X286.here hx rfl (pc0 := 42) (pc' := 58) rfl (hb hby d6_42) (by decide) (by decide) ?_
    show GO p e below T286 (mkF m 58 (la4 a1 d2) []) _
    refine XS.aloadN X286.here hx rfl (hb hby d6_58) rfl rfl ?_
    show GO p e below T286 (mkF m 59 (la4 a1 d2) [(.ref a1)]) _
    refine XS.aloadN X286.here hx rfl (hb hby d6_59) rfl rfl ?_
    show GO p e below T286 (mkF m 60 (la4 a1 d2) [(.ref a1), (.ref a1)]) _
    refine st287 _ ?_
    exact kt
  by_cases hb289 : (z1 - (1 : Int32)) = (0 : Int32)
  · have f290 : Fld Z h286 a1 kS0 "content" "D" (.double c1) := ((Fc.other W282 (Or.inr (slot_ne (Or.inl (wd hw 40 rfl)) (Or.inl (wd hw 38 rfl)) (by decide) (t := .double) (t' := .int) (by decide) (by decide)))).other W286 (Or.inr (slot_ne (Or.inl (wd hw 40 rfl)) (Or.inl (wd hw 31 rfl)) (by decide) (t := .double) (t' := .int) (by decide) (by decide))))
    have f291 : Exa Z h286 a1 kS0 := (f285.wr W286)
    obtain ⟨T292, h292, X292, e292, W292, st292⟩ := putF X287 hx hZ hown (host := "") (Or.inl (wd hw 39 rfl)) Via.refl e287 f290 f291 (Or.inl (wd hw 40 rfl)) (wd hw 6 rfl) (ty := .double) (by decide) rfl rfl (g := (mkF m 76 (la4 a1 d2) [(.double FP.dconst0), (.ref a1)])) rfl rfl (hb hby d6_76)
    have N292 := Fr.snoc X292 N286 (by omega : n0 ≤ a1)
    have sz292 : h286.size ≤ h292.size := Nat.le_of_eq W292.size.symm
    have f292 : Fld Z h292 a1 kS0 "content" "D" (.double FP.dconst0) := f290.same W292
    have f293 : Fld Z h292 a1 kS0 "content" "D" (.double (if (z1 - (1 : Int32)) = (0 : Int32) then (0 : UInt64) else FP.dsub c1 d2)) := by
      have q := f292
      rw [if_pos hb289]
      exact q
    have f294 : Exa Z h292 a1 kS0 := (f291.wr W292)
    have f295 : Fld Z h292 a1 kS0 "head" "I" (.int 2) := ((f282.other W286 (Or.inr (slot_ne (Or.inl (wd hw 38 rfl)) (Or.inl (wd hw 31 rfl)) (by decide) (t := .int) (t' := .int) (by decide) (by decide)))).other W292 (Or.inr (slot_ne (Or.inl (wd hw 38 rfl)) (Or.inl (wd hw 40 rfl)) (by decide) (t := .int) (t' := .double) (by decide) (by decide))))
    have f296 : Fld Z h292 a1 kS0 "size" "I" (.int (z1 - (1 : Int32))) := (f286.other W292 (Or.inr (slot_ne (Or.inl (wd hw 31 rfl)) (Or.inl (wd hw 40 rfl)) (by decide) (t := .int) (t' := .double) (by decide) (by decide))))
    have f297 : Fld Z h292 a1 kS0 "agents" "[I" (.ref t0) := (((F0.other W282 (Or.inr (slot_ne (Or.inl (wd hw 16 rfl)) (Or.inl (wd hw 38 rfl)) (by decide) (t := (.array .int)) (t' := .int) (by decide) (by decide)))).other W286 (Or.inr (slot_ne (Or.inl (wd hw 16 rfl)) (Or.inl (wd hw 31 rfl)) (by decide) (t := (.array .int)) (t' := .int) (by decide) (by decide)))).other W292 (Or.inr (slot_ne (Or.inl (wd hw 16 rfl)) (Or.inl (wd hw 40 rfl)) (by decide) (t := (.array .int)) (t' := .double) (by decide) (by decide))))
    have f298 : Arv Z h292 t0 k0 .int (8 : Int32) vA (.int 0) := (((V0.other W282 (neN (by omega))).other W286 (neN (by omega))).other W292 (neN (by omega)))
    have f299 : Fld Z h292 a1 kS0 "legs" "[I" (.ref t1) := (((F1.other W282 (Or.inr (slot_ne (Or.inl (wd hw 18 rfl)) (Or.inl (wd hw 38 rfl)) (by decide) (t := (.array .int)) (t' := .int) (by decide) (by decide)))).other W286 (Or.inr (slot_ne (Or.inl (wd hw 18 rfl)) (Or.inl (wd hw 31 rfl)) (by decide) (t := (.array .int)) (t' := .int) (by decide) (by decide)))).other W292 (Or.inr (slot_ne (Or.inl (wd hw 18 rfl)) (Or.inl (wd hw 40 rfl)) (by decide) (t := (.array .int)) (t' := .double) (by decide) (by decide))))
    have f300 : Arv Z h292 t1 k1 .int (8 : Int32) vL (.int 0) := (((V1.other W282 (neN (by omega))).other W286 (neN (by omega))).other W292 (neN (by omega)))
    have f301 : Fld Z h292 a1 kS0 "amounts" "[D" (.ref t2) := (((F2.other W282 (Or.inr (slot_ne (Or.inl (wd hw 21 rfl)) (Or.inl (wd hw 38 rfl)) (by decide) (t := (.array .double)) (t' := .int) (by decide) (by decide)))).other W286 (Or.inr (slot_ne (Or.inl (wd hw 21 rfl)) (Or.inl (wd hw 31 rfl)) (by decide) (t := (.array .double)) (t' := .int) (by decide) (by decide)))).other W292 (Or.inr (slot_ne (Or.inl (wd hw 21 rfl)) (Or.inl (wd hw 40 rfl)) (by decide) (t := (.array .double)) (t' := .double) (by decide) (by decide))))
    have f302 : Arv Z h292 t2 k2 .double (8 : Int32) vD (.double (0 : UInt64)) := (((V2.other W282 (neN (by omega))).other W286 (neN (by omega))).other W292 (neN (by omega)))
    have f303 : Fld Z h292 a1 kS0 "rears" "[Z" (.ref t3) := (((F3.other W282 (Or.inr (slot_ne (Or.inl (wd hw 24 rfl)) (Or.inl (wd hw 38 rfl)) (by decide) (t := (.array .boolean)) (t' := .int) (by decide) (by decide)))).other W286 (Or.inr (slot_ne (Or.inl (wd hw 24 rfl)) (Or.inl (wd hw 31 rfl)) (by decide) (t := (.array .boolean)) (t' := .int) (by decide) (by decide)))).other W292 (Or.inr (slot_ne (Or.inl (wd hw 24 rfl)) (Or.inl (wd hw 40 rfl)) (by decide) (t := (.array .boolean)) (t' := .double) (by decide) (by decide))))
    have f304 : Arv Z h292 t3 k3 .boolean (8 : Int32) vR (.int 0) := (((V3.other W282 (neN (by omega))).other W286 (neN (by omega))).other W292 (neN (by omega)))
    obtain ⟨fs, hr, hrun, hended, hW, hsame⟩ := X292.leave (v := none) (fun _ => rfl)
    refine ⟨_, _, pre288 _ ?_, hrun, hended, _, _, rfl, ?_, ⟨_, rfl⟩, hW, hsame.mono (by decide) (by decide)⟩
    · show GO p e below T287 (mkF m 63 (la4 a1 d2) [(.int (z1 - (1 : Int32))), (.ref a1)]) _
      refine XS.ifNo X287.here hx rfl (hb hby d6_63) rfl ((if0 _ _).trans (teq (hb289 : (z1 - (1 : Int32)) = (0 : Int32))).2) ?_
      show GO p e below T287 (mkF m 66 (la4 a1 d2) [(.ref a1)]) _
      refine XS.dconst0 X287.here hx rfl (hb hby d6_66) rfl ?_
      show GO p e below T287 (mkF m 67 (la4 a1 d2) [(.double FP.dconst0), (.ref a1)]) _
      refine XS.goto X287.here hx rfl (pc0 := 67) (pc' := 76) rfl (hb hby d6_67) (by decide) (by decide) ?_
      show GO p e below T287 (mkF m 76 (la4 a1 d2) [(.double FP.dconst0), (.ref a1)]) _
      refine st292 _ ?_
      show GO p e below T292 (mkF m 79 (la4 a1 d2) []) _
      exact X292.returnOut hx Bd.returns (hb hby d6_79) hr
    · show Qrm_takef1 Z a1 d2 z1 c1 x1 t0 k0 vA t1 k1 vL t2 k2 vD t3 k3 vR h0 n0 _ T292.heap _
      rw [e292]
      exact ⟨rfl, N292, ((((Keep.refl h0 [a1, t0, t1, t2, t3]).wr W282 (Or.inl (List.mem_of_getElem? (i := 0) rfl))).wr W286 (Or.inl (List.mem_of_getElem? (i := 0) rfl))).wr W292 (Or.inl (List.mem_of_getElem? (i := 0) rfl))), f294, f295, f296, f293, f297, f298, f299, f300, f301, f302, f303, f304⟩
  · have f305 : Fld Z h286 a1 kS0 "content" "D" (.double c1) := ((Fc.other W282 (Or.inr (slot_ne (Or.inl (wd hw 40 rfl)) (Or.inl (wd hw 38 rfl)) (by decide) (t := .double) (t' := .int) (by decide) (by decide)))).other W286 (Or.inr (slot_ne (Or.inl (wd hw 40 rfl)) (Or.inl (wd hw 31 rfl)) (by decide) (t := .double) (t' := .int) (by decide) (by decide))))
    obtain ⟨T306, X306, e306, st306⟩ := getF X287 hx hZ hown (host := "") (Or.inl (wd hw 39 rfl)) Via.refl e287 f305 (g := (mkF m 71 (la4 a1 d2) [(.ref a1), (.ref a1)])) rfl rfl (hb hby d6_71)
    have f307 : Exa Z h286 a1 kS0 := (f285.wr W286)
    obtain ⟨T308, h308, X308, e308, W308, st308⟩ := putF X306 hx hZ hown (host := "") (Or.inl (wd hw 39 rfl)) Via.refl e306 f305 f307 (Or.inl (wd hw 40 rfl)) (wd hw 6 rfl) (ty := .double) (by decide) rfl rfl (g := (mkF m 76 (la4 a1 d2) [(.double (FP.dsub c1 d2)), (.ref a1)])) rfl rfl (hb hby d6_76)
    have N308 := Fr.snoc X308 N286 (by omega : n0 ≤ a1)
    have sz308 : h286.size ≤ h308.size := Nat.le_of_eq W308.size.symm
    have f308 : Fld Z h308 a1 kS0 "content" "D" (.double (FP.dsub c1 d2)) := f305.same W308
    have f309 : Fld Z h308 a1 kS0 "content" "D" (.double (if (z1 - (1 : Int32)) = (0 : Int32) then (0 : UInt64) else FP.dsub c1 d2)) := by
      have q := f308
      rw [if_neg hb289]
      exact q
    have f310 : Exa Z h308 a1 kS0 := (f307.wr W308)
    have f311 : Fld Z h308 a1 kS0 "head" "I" (.int 2) := ((f282.other W286 (Or.inr (slot_ne (Or.inl (wd hw 38 rfl)) (Or.inl (wd hw 31 rfl)) (by decide) (t := .int) (t' := .int) (by decide) (by decide)))).other W308 (Or.inr (slot_ne (Or.inl (wd hw 38 rfl)) (Or.inl (wd hw 40 rfl)) (by decide) (t := .int) (t' := .double) (by decide) (by decide))))
    have f312 : Fld Z h308 a1 kS0 "size" "I" (.int (z1 - (1 : Int32))) := (f286.other W308 (Or.inr (slot_ne (Or.inl (wd hw 31 rfl)) (Or.inl (wd hw 40 rfl)) (by decide) (t := .int) (t' := .double) (by decide) (by decide))))
    have f313 : Fld Z h308 a1 kS0 "agents" "[I" (.ref t0) := (((F0.other W282 (Or.inr (slot_ne (Or.inl (wd hw 16 rfl)) (Or.inl (wd hw 38 rfl)) (by decide) (t := (.array .int)) (t' := .int) (by decide) (by decide)))).other W286 (Or.inr (slot_ne (Or.inl (wd hw 16 rfl)) (Or.inl (wd hw 31 rfl)) (by decide) (t := (.array .int)) (t' := .int) (by decide) (by decide)))).other W308 (Or.inr (slot_ne (Or.inl (wd hw 16 rfl)) (Or.inl (wd hw 40 rfl)) (by decide) (t := (.array .int)) (t' := .double) (by decide) (by decide))))
    have f314 : Arv Z h308 t0 k0 .int (8 : Int32) vA (.int 0) := (((V0.other W282 (neN (by omega))).other W286 (neN (by omega))).other W308 (neN (by omega)))
    have f315 : Fld Z h308 a1 kS0 "legs" "[I" (.ref t1) := (((F1.other W282 (Or.inr (slot_ne (Or.inl (wd hw 18 rfl)) (Or.inl (wd hw 38 rfl)) (by decide) (t := (.array .int)) (t' := .int) (by decide) (by decide)))).other W286 (Or.inr (slot_ne (Or.inl (wd hw 18 rfl)) (Or.inl (wd hw 31 rfl)) (by decide) (t := (.array .int)) (t' := .int) (by decide) (by decide)))).other W308 (Or.inr (slot_ne (Or.inl (wd hw 18 rfl)) (Or.inl (wd hw 40 rfl)) (by decide) (t := (.array .int)) (t' := .double) (by decide) (by decide))))
    have f316 : Arv Z h308 t1 k1 .int (8 : Int32) vL (.int 0) := (((V1.other W282 (neN (by omega))).other W286 (neN (by omega))).other W308 (neN (by omega)))
    have f317 : Fld Z h308 a1 kS0 "amounts" "[D" (.ref t2) := (((F2.other W282 (Or.inr (slot_ne (Or.inl (wd hw 21 rfl)) (Or.inl (wd hw 38 rfl)) (by decide) (t := (.array .double)) (t' := .int) (by decide) (by decide)))).other W286 (Or.inr (slot_ne (Or.inl (wd hw 21 rfl)) (Or.inl (wd hw 31 rfl)) (by decide) (t := (.array .double)) (t' := .int) (by decide) (by decide)))).other W308 (Or.inr (slot_ne (Or.inl (wd hw 21 rfl)) (Or.inl (wd hw 40 rfl)) (by decide) (t := (.array .double)) (t' := .double) (by decide) (by decide))))
    have f318 : Arv Z h308 t2 k2 .double (8 : Int32) vD (.double (0 : UInt64)) := (((V2.other W282 (neN (by omega))).other W286 (neN (by omega))).other W308 (neN (by omega)))
    have f319 : Fld Z h308 a1 kS0 "rears" "[Z" (.ref t3) := (((F3.other W282 (Or.inr (slot_ne (Or.inl (wd hw 24 rfl)) (Or.inl (wd hw 38 rfl)) (by decide) (t := (.array .boolean)) (t' := .int) (by decide) (by decide)))).other W286 (Or.inr (slot_ne (Or.inl (wd hw 24 rfl)) (Or.inl (wd hw 31 rfl)) (by decide) (t := (.array .boolean)) (t' := .int) (by decide) (by decide)))).other W308 (Or.inr (slot_ne (Or.inl (wd hw 24 rfl)) (Or.inl (wd hw 40 rfl)) (by decide) (t := (.array .boolean)) (t' := .double) (by decide) (by decide))))
    have f320 : Arv Z h308 t3 k3 .boolean (8 : Int32) vR (.int 0) := (((V3.other W282 (neN (by omega))).other W286 (neN (by omega))).other W308 (neN (by omega)))
    obtain ⟨fs, hr, hrun, hended, hW, hsame⟩ := X308.leave (v := none) (fun _ => rfl)
    refine ⟨_, _, pre288 _ ?_, hrun, hended, _, _, rfl, ?_, ⟨_, rfl⟩, hW, hsame.mono (by decide) (by decide)⟩
    · show GO p e below T287 (mkF m 63 (la4 a1 d2) [(.int (z1 - (1 : Int32))), (.ref a1)]) _
      refine XS.ifYes X287.here hx rfl (pc0 := 63) (pc' := 70) rfl (hb hby d6_63) rfl ((if0 _ _).trans (feq (hb289 : ¬ ((z1 - (1 : Int32)) = (0 : Int32)))).2) (by decide) (by decide) ?_
      show GO p e below T287 (mkF m 70 (la4 a1 d2) [(.ref a1)]) _
      refine XS.aloadN X287.here hx rfl (hb hby d6_70) rfl rfl ?_
      show GO p e below T287 (mkF m 71 (la4 a1 d2) [(.ref a1), (.ref a1)]) _
      refine st306 _ ?_
      show GO p e below T306 (mkF m 74 (la4 a1 d2) [(.double c1), (.ref a1)]) _
      refine XS.dloadN X306.here hx rfl (hb hby d6_74) rfl ?_
      show GO p e below T306 (mkF m 75 (la4 a1 d2) [(.double d2), (.double c1), (.ref a1)]) _
      refine XS.dsubS X306.here hx rfl (hb hby d6_75) rfl hn rfl ?_
      show GO p e below T306 (mkF m 76 (la4 a1 d2) [(.double (FP.dsub c1 d2)), (.ref a1)]) _
      refine st308 _ ?_
      show GO p e below T308 (mkF m 79 (la4 a1 d2) []) _
      exact X308.returnOut hx Bd.returns (hb hby d6_79) hr
    · show Qrm_takef1 Z a1 d2 z1 c1 x1 t0 k0 vA t1 k1 vL t2 k2 vD t3 k3 vR h0 n0 _ T308.heap _
      rw [e308]
      exact ⟨rfl, N308, ((((Keep.refl h0 [a1, t0, t1, t2, t3]).wr W282 (Or.inl (List.mem_of_getElem? (i := 0) rfl))).wr W286 (Or.inl (List.mem_of_getElem? (i := 0) rfl))).wr W308 (Or.inl (List.mem_of_getElem? (i := 0) rfl))), f310, f311, f312, f309, f313, f314, f315, f316, f317, f318, f319, f320⟩
def Qrm_takef2 (Z : State) (a1 : Addr) (d2 : UInt64) (z1 : Int32) (c1 : UInt64) (x1 : UInt64) (t0 : Addr) (k0 : ClassId) (vA : List Value) (t1 : Addr) (k1 : ClassId) (vL : List Value) (t2 : Addr) (k2 : ClassId) (vD : List Value) (t3 : Addr) (k3 : ClassId) (vR : List Value) (h0 : Heap) (n0 : Nat) (v : Option Value) (h : Heap) (L : List Loc) : Prop := v = none ∧ Fr n0 L ∧ Keep h0 h [a1, t0, t1, t2, t3] ∧ Exa Z h a1 kS0 ∧ Fld Z h a1 kS0 "head" "I" (.int 3) ∧ Fld Z h a1 kS0 "size" "I" (.int (z1 - (1 : Int32))) ∧ Fld Z h a1 kS0 "content" "D" (.double (if (z1 - (1 : Int32)) = (0 : Int32) then (0 : UInt64) else FP.dsub c1 d2)) ∧ Fld Z h a1 kS0 "agents" "[I" (.ref t0) ∧ Arv Z h t0 k0 .int (8 : Int32) vA (.int 0) ∧ Fld Z h a1 kS0 "legs" "[I" (.ref t1) ∧ Arv Z h t1 k1 .int (8 : Int32) vL (.int 0) ∧ Fld Z h a1 kS0 "amounts" "[D" (.ref t2) ∧ Arv Z h t2 k2 .double (8 : Int32) vD (.double (0 : UInt64)) ∧ Fld Z h a1 kS0 "rears" "[Z" (.ref t3) ∧ Arv Z h t3 k3 .boolean (8 : Int32) vR (.int 0)
theorem ef_rm_takef2 (m : MethodId) (x0 : Addr) (x1 : UInt64) : entryFrame m #[(.ref x0), (.double x1)] 3 = mkF m 0 (la4 x0 x1) [] := by first | rfl | (simp [entryFrame, mkF, argsToLocals, Value.category]; done)
set_option maxRecDepth 65536 in
set_option maxHeartbeats 40000000 in
theorem rm_takef2 (l : Launch) (Z : State) (a0 : Array Value) (hw : ∀ d ∈ tables_1, d.before a0 Z = true) (ws : List Jvm.Cond) (a1 : Addr) (d2 : UInt64) (z1 : Int32) (c1 : UInt64) (x1 : UInt64) (t0 : Addr) (k0 : ClassId) (vA : List Value) (t1 : Addr) (k1 : ClassId) (vL : List Value) (t2 : Addr) (k2 : ClassId) (vD : List Value) (t3 : Addr) (k3 : ClassId) (vR : List Value) (h0 : Heap) (n0 : Nat) (Z0 : n0 ≤ h0.size) (E1 : Exa Z h0 a1 kS0) (Fh : Fld Z h0 a1 kS0 "head" "I" (.int 2)) (Fs : Fld Z h0 a1 kS0 "size" "I" (.int z1)) (Fc : Fld Z h0 a1 kS0 "content" "D" (.double c1)) (F0 : Fld Z h0 a1 kS0 "agents" "[I" (.ref t0)) (V0 : Arv Z h0 t0 k0 .int (8 : Int32) vA (.int 0)) (F1 : Fld Z h0 a1 kS0 "legs" "[I" (.ref t1)) (V1 : Arv Z h0 t1 k1 .int (8 : Int32) vL (.int 0)) (F2 : Fld Z h0 a1 kS0 "amounts" "[D" (.ref t2)) (V2 : Arv Z h0 t2 k2 .double (8 : Int32) vD (.double (0 : UInt64))) (F3 : Fld Z h0 a1 kS0 "rears" "[Z" (.ref t3)) (V3 : Arv Z h0 t3 k3 .boolean (8 : Int32) vR (.int 0)) (len0 : vA.length = 8) (len1 : vL.length = 8) (len2 : vD.length = 8) (len3 : vR.length = 8) (o1 : LT.lt (α := Nat) a1 t0) (o2 : LT.lt (α := Nat) t0 t1) (o3 : LT.lt (α := Nat) t1 t2) (o4 : LT.lt (α := Nat) t2 t3) (g1 : n0 ≤ a1) (hx1 : vD.getD ((2 : Int32)).toNatClampNeg (.double (0 : UInt64)) = (.double x1)) (hcmp : ¬ ((cmpValue (FP.dcmp d2 x1) .l) < (0 : Int32))) (hn : Jvm.Free.Fl.NoNaN64 (FP.dsub c1 d2)) :
    MetFree l (⟨kS0, "takeFromHead", "(D)V"⟩ : MethodName) (head1 (Jvm.Cond.code (⟨kS0, "takeFromHead", "(D)V"⟩ : MethodName) prog_14_method_12_code 3 none :: ws) ({ frames := 0, cells := 0, slots := 0, locals := 0 } : Room)) (fun a U => a = #[(.ref a1), (.double d2)] ∧ Z.Warmed39 U.vm ∧ U.heap = h0) (fun _ _ _ _ _ => True) (fun _ U o U' => ∃ v L, o = .returned v ∧ Qrm_takef2 Z a1 d2 z1 c1 x1 t0 k0 vA t1 k1 vL t2 k2 vD t3 k3 vR h0 n0 v U'.heap L ∧ FrameEnd U o U' L ({ frames := 0, cells := 0, slots := 0, locals := 0 } : Room).cells ({ frames := 0, cells := 0, slots := 0, locals := 0 } : Room).slots) := by
  refine MetFree.of_bodySF (plainFor_of_name pn_0) hisR ?_
  intro p e s m args below meth c s₁ Bd hml0 hP hK
  obtain ⟨rfl, hZ, hh⟩ := hP
  have hx := Bd.exec
  have hby := Bd.bytes
  have hml : c.maxLocals = 3 := hml0
  have hown : s.vm.findClass kS0 = some m.cls := findClass_of_methodNamed Bd.named
  have hnm := (name_of_methodNamed Bd.named Bd.method).1
  have X0 : Stand p l e ({ frames := 0, cells := 0, slots := 0, locals := 0 } : Room) s m #[(.ref a1), (.double d2)] below meth c s₁ [] 0 0 := Stand.of_body Bd
  have e0 : s₁.heap = h0 := by rw [← hh, Bd.state]; rfl
  have N0 := Fr.nil n0
  have pre0 : ∀ t, Steps p.tables e below (s₁.setTop (mkF m 0 (la4 a1 d2) [])) t → Steps p.tables e below (s₁.setTop (entryFrame m #[(.ref a1), (.double d2)] 3)) t := fun t k => castTop (ef_rm_takef2 m a1 d2) k
  have lt_E1 := ltA E1.lt
  have lt_Fh := ltA Fh.lt
  have lt_Fs := ltA Fs.lt
  have lt_Fc := ltA Fc.lt
  have lt_F0 := ltA F0.lt
  have lt_V0 := ltA V0.lt
  have lt_F1 := ltA F1.lt
  have lt_V1 := ltA V1.lt
  have lt_F2 := ltA F2.lt
  have lt_V2 := ltA V2.lt
  have lt_F3 := ltA F3.lt
  have lt_V3 := ltA V3.lt
  obtain ⟨T321, X321, e321, st321⟩ := getF X0 hx hZ hown (host := "") (Or.inl (wd hw 20 rfl)) Via.refl e0 F2 (g := (mkF m 2 (la4 a1 d2) [(.ref a1), (.double d2)])) rfl rfl (hb hby d6_2)
  obtain ⟨T322, X322, e322, st322⟩ := getF X321 hx hZ hown (host := "") (Or.inl (wd hw 37 rfl)) Via.refl e321 Fh (g := (mkF m 6 (la4 a1 d2) [(.ref a1), (.ref t2), (.double d2)])) rfl rfl (hb hby d6_6)
  obtain ⟨cl323, Ar323, q323, S323, M323, H323, G323⟩ := id V2
  have hin323 : ¬ ((2 : Int32) < 0 ∨ cl323.slots.size ≤ ((2 : Int32)).toNatClampNeg) := inb_of S323 ⟨by decide, by decide⟩
  have hat323 : cl323.slots[((2 : Int32)).toNatClampNeg]? = some (.double x1) := Has.at H323 hin323 hx1
  obtain ⟨T324, X324, e324, st324⟩ := getF X322 hx hZ hown (host := "") (Or.inl (wd hw 37 rfl)) Via.refl e322 Fh (g := (mkF m 16 (la4 a1 d2) [(.ref a1), (.ref a1)])) rfl rfl (hb hby d6_16)
  obtain ⟨T325, X325, e325, st325⟩ := getF X324 hx hZ hown (host := "") (Or.inl (wd hw 15 rfl)) Via.refl e324 F0 (g := (mkF m 22 (la4 a1 d2) [(.ref a1), (.int 3), (.ref a1)])) rfl rfl (hb hby d6_22)
  obtain ⟨cl326, Ar326, -, S326, M326, -, -⟩ := id V0
  obtain ⟨T327, h327, X327, e327, W327, st327⟩ := putF X325 hx hZ hown (host := "") (Or.inl (wd hw 37 rfl)) Via.refl e325 Fh E1 (Or.inl (wd hw 38 rfl)) (wd hw 6 rfl) (ty := .int) (by decide) rfl rfl (g := (mkF m 29 (la4 a1 d2) [(.int 3), (.ref a1)])) rfl rfl (hb hby d6_29)
  have N327 := Fr.snoc X327 N0 (by omega : n0 ≤ a1)
  have sz327 : h0.size ≤ h327.size := Nat.le_of_eq W327.size.symm
  have f327 : Fld Z h327 a1 kS0 "head" "I" (.int 3) := Fh.same W327
  have f328 : Fld Z h327 a1 kS0 "size" "I" (.int z1) := (Fs.other W327 (Or.inr (slot_ne (Or.inl (wd hw 31 rfl)) (Or.inl (wd hw 38 rfl)) (by decide) (t := .int) (t' := .int) (by decide) (by decide))))
  obtain ⟨T329, X329, e329, st329⟩ := getF X327 hx hZ hown (host := "") (Or.inl (wd hw 30 rfl)) Via.refl e327 f328 (g := (mkF m 34 (la4 a1 d2) [(.ref a1), (.ref a1)])) rfl rfl (hb hby d6_34)
  have f330 : Exa Z h327 a1 kS0 := (E1.wr W327)
  obtain ⟨T331, h331, X331, e331, W331, st331⟩ := putF X329 hx hZ hown (host := "") (Or.inl (wd hw 30 rfl)) Via.refl e329 f328 f330 (Or.inl (wd hw 31 rfl)) (wd hw 6 rfl) (ty := .int) (by decide) rfl rfl (g := (mkF m 39 (la4 a1 d2) [(.int (z1 - (1 : Int32))), (.ref a1)])) rfl rfl (hb hby d6_39)
  have N331 := Fr.snoc X331 N327 (by omega : n0 ≤ a1)
  have sz331 : h327.size ≤ h331.size := Nat.le_of_eq W331.size.symm
  have f331 : Fld Z h331 a1 kS0 "size" "I" (.int (z1 - (1 : Int32))) := f328.same W331
  obtain ⟨T332, X332, e332, st332⟩ := getF X331 hx hZ hown (host := "") (Or.inl (wd hw 30 rfl)) Via.refl e331 f331 (g := (mkF m 60 (la4 a1 d2) [(.ref a1), (.ref a1)])) rfl rfl (hb hby d6_60)
  have pre333 : ∀ t, Steps p.tables e below (T332.setTop (mkF m 63 (la4 a1 d2) [(.int (z1 - (1 : Int32))), (.ref a1)])) t → Steps p.tables e below (s₁.setTop (entryFrame m #[(.ref a1), (.double d2)] 3)) t := by
    intro t kt
    refine pre0 t ?_
    show GO p e below s₁ (mkF m 0 (la4 a1 d2) []) _
    refine XS.dloadN X0.here hx rfl (hb hby d6_0) rfl ?_
    show GO p e below s₁ (mkF m 1 (la4 a1 d2) [(.double d2)]) _
    refine XS.aloadN X0.here hx rfl (hb hby d6_1) rfl rfl ?_
    show GO p e below s₁ (mkF m 2 (la4 a1 d2) [(.ref a1), (.double d2)]) _
    refine st321 _ ?_
    show GO p e below T321 (mkF m 5 (la4 a1 d2) [(.ref t2), (.double d2)]) _
    refine XS.aloadN X321.here hx rfl (hb hby d6_5) rfl rfl ?_
    show GO p e below T321 (mkF m 6 (la4 a1 d2) [(.ref a1), (.ref t2), (.double d2)]) _
    refine st322 _ ?_
    show GO p e below T322 (mkF m 9 (la4 a1 d2) [(.int 2), (.ref t2), (.double d2)]) _
    refine X322.daload hx (j := (2 : Int32)) (v := (.double x1)) (by rw [e322]; exact Ar323.1) (State.isArrayOf_alike hZ.alike Ar323.2.1) Ar323.2.2 hin323 hat323 (g := (mkF m 9 (la4 a1 d2) [(.int 2), (.ref t2), (.double d2)])) rfl rfl (hb hby d6_9) _ ?_
    show GO p e below T322 (mkF m 10 (la4 a1 d2) [(.double x1), (.double d2)]) _
    refine XS.dcmpS X322.here hx rfl (hb hby d6_10) rfl rfl ?_
    show GO p e below T322 (mkF m 11 (la4 a1 d2) [(.int (cmpValue (FP.dcmp d2 x1) .l))]) _
    refine XS.ifNo X322.here hx rfl (hb hby d6_11) rfl ((if0 _ _).trans (flt (hcmp : ¬ ((cmpValue (FP.dcmp d2 x1) .l) < (0 : Int32)))).1) ?_
    show GO p e below T322 (mkF m 14 (la4 a1 d2) []) _
    refine XS.aloadN X322.here hx rfl (hb hby d6_14) rfl rfl ?_
    show GO p e below T322 (mkF m 15 (la4 a1 d2) [(.ref a1)]) _
    refine XS.aloadN X322.here hx rfl (hb hby d6_15) rfl rfl ?_
    show GO p e below T322 (mkF m 16 (la4 a1 d2) [(.ref a1), (.ref a1)]) _
    refine st324 _ ?_
    show GO p e below T324 (mkF m 19 (la4 a1 d2) [(.int 2), (.ref a1)]) _
    refine XS.iconst X324.here hx rfl (hb hby d6_19) ?_
    show GO p e below T324 (mkF m 20 (la4 a1 d2) [(.int 1), (.int 2), (.ref a1)]) _
    refine XS.iadd X324.here hx rfl (hb hby d6_20) rfl ?_
    rw [show ((2 : Int32) + (1 : Int32)) = (3 : Int32) from by decide]
    show GO p e below T324 (mkF m 21 (la4 a1 d2) [(.int 3), (.ref a1)]) _
    refine XS.aloadN X324.here hx rfl (hb hby d6_21) rfl rfl ?_
    show GO p e below T324 (mkF m 22 (la4 a1 d2) [(.ref a1), (.int 3), (.ref a1)]) _
    refine st325 _ ?_
    show GO p e below T325 (mkF m 25 (la4 a1 d2) [(.ref t0), (.int 3), (.ref a1)]) _
    refine X325.arraylength hx (by rw [e325]; exact Ar326.1) (State.isArrayOf_alike hZ.alike Ar326.2.1) (g := (mkF m 25 (la4 a1 d2) [(.ref t0), (.int 3), (.ref a1)])) rfl rfl (hb hby d6_25) _ ?_
    rw [len_of S326 M326]
    show GO p e below T325 (mkF m 26 (la4 a1 d2) [(.int 8), (.int 3), (.ref a1)]) _
    refine XS.iconst X325.here hx rfl (hb hby d6_26) ?_
    show GO p e below T325 (mkF m 27 (la4 a1 d2) [(.int 1), (.int 8), (.int 3), (.ref a1)]) _
    refine XS.isub X325.here hx rfl (hb hby d6_27) rfl ?_
    rw [show ((8 : Int32) - (1 : Int32)) = (7 : Int32) from by decide]
    show GO p e below T325 (mkF m 28 (la4 a1 d2) [(.int 7), (.int 3), (.ref a1)]) _
    refine XS.iand X325.here hx rfl (hb hby d6_28) rfl ?_
    rw [show ((3 : Int32) &&& (7 : Int32)) = (3 : Int32) from by decide]
    show GO p e below T325 (mkF m 29 (la4 a1 d2) [(.int 3), (.ref a1)]) _
    refine st327 _ ?_
    show GO p e below T327 (mkF m 32 (la4 a1 d2) []) _
    refine XS.aloadN X327.here hx rfl (hb hby d6_32) rfl rfl ?_
    show GO p e below T327 (mkF m 33 (la4 a1 d2) [(.ref a1)]) _
    refine XS.dup X327.here hx rfl (hb hby d6_33) rfl rfl ?_
    show GO p e below T327 (mkF m 34 (la4 a1 d2) [(.ref a1), (.ref a1)]) _
    refine st329 _ ?_
    show GO p e below T329 (mkF m 37 (la4 a1 d2) [(.int z1), (.ref a1)]) _
    refine XS.iconst X329.here hx rfl (hb hby d6_37) ?_
    show GO p e below T329 (mkF m 38 (la4 a1 d2) [(.int 1), (.int z1), (.ref a1)]) _
    refine XS.isub X329.here hx rfl (hb hby d6_38) rfl ?_
    show GO p e below T329 (mkF m 39 (la4 a1 d2) [(.int (z1 - (1 : Int32))), (.ref a1)]) _
    refine st331 _ ?_
    show GO p e below T331 (mkF m 42 (la4 a1 d2) []) _
    refine XS.goto X331.here hx rfl (pc0 := 42) (pc' := 58) rfl (hb hby d6_42) (by decide) (by decide) ?_
    show GO p e below T331 (mkF m 58 (la4 a1 d2) []) _
    refine XS.aloadN X331.here hx rfl (hb hby d6_58) rfl rfl ?_
    show GO p e below T331 (mkF m 59 (la4 a1 d2) [(.ref a1)]) _
    refine XS.aloadN X331.here hx rfl (hb hby d6_59) rfl rfl ?_
    show GO p e below T331 (mkF m 60 (la4 a1 d2) [(.ref a1), (.ref a1)]) _
    refine st332 _ ?_
    exact kt
  by_cases hb334 : (z1 - (1 : Int32)) = (0 : Int32)
  · have f335 : Fld Z h331 a1 kS0 "content" "D" (.double c1) := ((Fc.other W327 (Or.inr (slot_ne (Or.inl (wd hw 40 rfl)) (Or.inl (wd hw 38 rfl)) (by decide) (t := .double) (t' := .int) (by decide) (by decide)))).other W331 (Or.inr (slot_ne (Or.inl (wd hw 40 rfl)) (Or.inl (wd hw 31 rfl)) (by decide) (t := .double) (t' := .int) (by decide) (by decide))))
    have f336 : Exa Z h331 a1 kS0 := (f330.wr W331)
    obtain ⟨T337, h337, X337, e337, W337, st337⟩ := putF X332 hx hZ hown (host := "") (Or.inl (wd hw 39 rfl)) Via.refl e332 f335 f336 (Or.inl (wd hw 40 rfl)) (wd hw 6 rfl) (ty := .double) (by decide) rfl rfl (g := (mkF m 76 (la4 a1 d2) [(.double FP.dconst0), (.ref a1)])) rfl rfl (hb hby d6_76)
    have N337 := Fr.snoc X337 N331 (by omega : n0 ≤ a1)
    have sz337 : h331.size ≤ h337.size := Nat.le_of_eq W337.size.symm
    have f337 : Fld Z h337 a1 kS0 "content" "D" (.double FP.dconst0) := f335.same W337
    have f338 : Fld Z h337 a1 kS0 "content" "D" (.double (if (z1 - (1 : Int32)) = (0 : Int32) then (0 : UInt64) else FP.dsub c1 d2)) := by
      have q := f337
      rw [if_pos hb334]
      exact q
    have f339 : Exa Z h337 a1 kS0 := (f336.wr W337)
    have f340 : Fld Z h337 a1 kS0 "head" "I" (.int 3) := ((f327.other W331 (Or.inr (slot_ne (Or.inl (wd hw 38 rfl)) (Or.inl (wd hw 31 rfl)) (by decide) (t := .int) (t' := .int) (by decide) (by decide)))).other W337 (Or.inr (slot_ne (Or.inl (wd hw 38 rfl)) (Or.inl (wd hw 40 rfl)) (by decide) (t := .int) (t' := .double) (by decide) (by decide))))
    have f341 : Fld Z h337 a1 kS0 "size" "I" (.int (z1 - (1 : Int32))) := (f331.other W337 (Or.inr (slot_ne (Or.inl (wd hw 31 rfl)) (Or.inl (wd hw 40 rfl)) (by decide) (t := .int) (t' := .double) (by decide) (by decide))))
    have f342 : Fld Z h337 a1 kS0 "agents" "[I" (.ref t0) := (((F0.other W327 (Or.inr (slot_ne (Or.inl (wd hw 16 rfl)) (Or.inl (wd hw 38 rfl)) (by decide) (t := (.array .int)) (t' := .int) (by decide) (by decide)))).other W331 (Or.inr (slot_ne (Or.inl (wd hw 16 rfl)) (Or.inl (wd hw 31 rfl)) (by decide) (t := (.array .int)) (t' := .int) (by decide) (by decide)))).other W337 (Or.inr (slot_ne (Or.inl (wd hw 16 rfl)) (Or.inl (wd hw 40 rfl)) (by decide) (t := (.array .int)) (t' := .double) (by decide) (by decide))))
    have f343 : Arv Z h337 t0 k0 .int (8 : Int32) vA (.int 0) := (((V0.other W327 (neN (by omega))).other W331 (neN (by omega))).other W337 (neN (by omega)))
    have f344 : Fld Z h337 a1 kS0 "legs" "[I" (.ref t1) := (((F1.other W327 (Or.inr (slot_ne (Or.inl (wd hw 18 rfl)) (Or.inl (wd hw 38 rfl)) (by decide) (t := (.array .int)) (t' := .int) (by decide) (by decide)))).other W331 (Or.inr (slot_ne (Or.inl (wd hw 18 rfl)) (Or.inl (wd hw 31 rfl)) (by decide) (t := (.array .int)) (t' := .int) (by decide) (by decide)))).other W337 (Or.inr (slot_ne (Or.inl (wd hw 18 rfl)) (Or.inl (wd hw 40 rfl)) (by decide) (t := (.array .int)) (t' := .double) (by decide) (by decide))))
    have f345 : Arv Z h337 t1 k1 .int (8 : Int32) vL (.int 0) := (((V1.other W327 (neN (by omega))).other W331 (neN (by omega))).other W337 (neN (by omega)))
    have f346 : Fld Z h337 a1 kS0 "amounts" "[D" (.ref t2) := (((F2.other W327 (Or.inr (slot_ne (Or.inl (wd hw 21 rfl)) (Or.inl (wd hw 38 rfl)) (by decide) (t := (.array .double)) (t' := .int) (by decide) (by decide)))).other W331 (Or.inr (slot_ne (Or.inl (wd hw 21 rfl)) (Or.inl (wd hw 31 rfl)) (by decide) (t := (.array .double)) (t' := .int) (by decide) (by decide)))).other W337 (Or.inr (slot_ne (Or.inl (wd hw 21 rfl)) (Or.inl (wd hw 40 rfl)) (by decide) (t := (.array .double)) (t' := .double) (by decide) (by decide))))
    have f347 : Arv Z h337 t2 k2 .double (8 : Int32) vD (.double (0 : UInt64)) := (((V2.other W327 (neN (by omega))).other W331 (neN (by omega))).other W337 (neN (by omega)))
    have f348 : Fld Z h337 a1 kS0 "rears" "[Z" (.ref t3) := (((F3.other W327 (Or.inr (slot_ne (Or.inl (wd hw 24 rfl)) (Or.inl (wd hw 38 rfl)) (by decide) (t := (.array .boolean)) (t' := .int) (by decide) (by decide)))).other W331 (Or.inr (slot_ne (Or.inl (wd hw 24 rfl)) (Or.inl (wd hw 31 rfl)) (by decide) (t := (.array .boolean)) (t' := .int) (by decide) (by decide)))).other W337 (Or.inr (slot_ne (Or.inl (wd hw 24 rfl)) (Or.inl (wd hw 40 rfl)) (by decide) (t := (.array .boolean)) (t' := .double) (by decide) (by decide))))
    have f349 : Arv Z h337 t3 k3 .boolean (8 : Int32) vR (.int 0) := (((V3.other W327 (neN (by omega))).other W331 (neN (by omega))).other W337 (neN (by omega)))
    obtain ⟨fs, hr, hrun, hended, hW, hsame⟩ := X337.leave (v := none) (fun _ => rfl)
    refine ⟨_, _, pre333 _ ?_, hrun, hended, _, _, rfl, ?_, ⟨_, rfl⟩, hW, hsame.mono (by decide) (by decide)⟩
    · show GO p e below T332 (mkF m 63 (la4 a1 d2) [(.int (z1 - (1 : Int32))), (.ref a1)]) _
      refine XS.ifNo X332.here hx rfl (hb hby d6_63) rfl ((if0 _ _).trans (teq (hb334 : (z1 - (1 : Int32)) = (0 : Int32))).2) ?_
      show GO p e below T332 (mkF m 66 (la4 a1 d2) [(.ref a1)]) _
      refine XS.dconst0 X332.here hx rfl (hb hby d6_66) rfl ?_
      show GO p e below T332 (mkF m 67 (la4 a1 d2) [(.double FP.dconst0), (.ref a1)]) _
      refine XS.goto X332.here hx rfl (pc0 := 67) (pc' := 76) rfl (hb hby d6_67) (by decide) (by decide) ?_
      show GO p e below T332 (mkF m 76 (la4 a1 d2) [(.double FP.dconst0), (.ref a1)]) _
      refine st337 _ ?_
      show GO p e below T337 (mkF m 79 (la4 a1 d2) []) _
      exact X337.returnOut hx Bd.returns (hb hby d6_79) hr
    · show Qrm_takef2 Z a1 d2 z1 c1 x1 t0 k0 vA t1 k1 vL t2 k2 vD t3 k3 vR h0 n0 _ T337.heap _
      rw [e337]
      exact ⟨rfl, N337, ((((Keep.refl h0 [a1, t0, t1, t2, t3]).wr W327 (Or.inl (List.mem_of_getElem? (i := 0) rfl))).wr W331 (Or.inl (List.mem_of_getElem? (i := 0) rfl))).wr W337 (Or.inl (List.mem_of_getElem? (i := 0) rfl))), f339, f340, f341, f338, f342, f343, f344, f345, f346, f347, f348, f349⟩
  · have f350 : Fld Z h331 a1 kS0 "content" "D" (.double c1) := ((Fc.other W327 (Or.inr (slot_ne (Or.inl (wd hw 40 rfl)) (Or.inl (wd hw 38 rfl)) (by decide) (t := .double) (t' := .int) (by decide) (by decide)))).other W331 (Or.inr (slot_ne (Or.inl (wd hw 40 rfl)) (Or.inl (wd hw 31 rfl)) (by decide) (t := .double) (t' := .int) (by decide) (by decide))))
    obtain ⟨T351, X351, e351, st351⟩ := getF X332 hx hZ hown (host := "") (Or.inl (wd hw 39 rfl)) Via.refl e332 f350 (g := (mkF m 71 (la4 a1 d2) [(.ref a1), (.ref a1)])) rfl rfl (hb hby d6_71)
    have f352 : Exa Z h331 a1 kS0 := (f330.wr W331)
    obtain ⟨T353, h353, X353, e353, W353, st353⟩ := putF X351 hx hZ hown (host := "") (Or.inl (wd hw 39 rfl)) Via.refl e351 f350 f352 (Or.inl (wd hw 40 rfl)) (wd hw 6 rfl) (ty := .double) (by decide) rfl rfl (g := (mkF m 76 (la4 a1 d2) [(.double (FP.dsub c1 d2)), (.ref a1)])) rfl rfl (hb hby d6_76)
    have N353 := Fr.snoc X353 N331 (by omega : n0 ≤ a1)
    have sz353 : h331.size ≤ h353.size := Nat.le_of_eq W353.size.symm
    have f353 : Fld Z h353 a1 kS0 "content" "D" (.double (FP.dsub c1 d2)) := f350.same W353
    have f354 : Fld Z h353 a1 kS0 "content" "D" (.double (if (z1 - (1 : Int32)) = (0 : Int32) then (0 : UInt64) else FP.dsub c1 d2)) := by
      have q := f353
      rw [if_neg hb334]
      exact q
    have f355 : Exa Z h353 a1 kS0 := (f352.wr W353)
    have f356 : Fld Z h353 a1 kS0 "head" "I" (.int 3) := ((f327.other W331 (Or.inr (slot_ne (Or.inl (wd hw 38 rfl)) (Or.inl (wd hw 31 rfl)) (by decide) (t := .int) (t' := .int) (by decide) (by decide)))).other W353 (Or.inr (slot_ne (Or.inl (wd hw 38 rfl)) (Or.inl (wd hw 40 rfl)) (by decide) (t := .int) (t' := .double) (by decide) (by decide))))
    have f357 : Fld Z h353 a1 kS0 "size" "I" (.int (z1 - (1 : Int32))) := (f331.other W353 (Or.inr (slot_ne (Or.inl (wd hw 31 rfl)) (Or.inl (wd hw 40 rfl)) (by decide) (t := .int) (t' := .double) (by decide) (by decide))))
    have f358 : Fld Z h353 a1 kS0 "agents" "[I" (.ref t0) := (((F0.other W327 (Or.inr (slot_ne (Or.inl (wd hw 16 rfl)) (Or.inl (wd hw 38 rfl)) (by decide) (t := (.array .int)) (t' := .int) (by decide) (by decide)))).other W331 (Or.inr (slot_ne (Or.inl (wd hw 16 rfl)) (Or.inl (wd hw 31 rfl)) (by decide) (t := (.array .int)) (t' := .int) (by decide) (by decide)))).other W353 (Or.inr (slot_ne (Or.inl (wd hw 16 rfl)) (Or.inl (wd hw 40 rfl)) (by decide) (t := (.array .int)) (t' := .double) (by decide) (by decide))))
    have f359 : Arv Z h353 t0 k0 .int (8 : Int32) vA (.int 0) := (((V0.other W327 (neN (by omega))).other W331 (neN (by omega))).other W353 (neN (by omega)))
    have f360 : Fld Z h353 a1 kS0 "legs" "[I" (.ref t1) := (((F1.other W327 (Or.inr (slot_ne (Or.inl (wd hw 18 rfl)) (Or.inl (wd hw 38 rfl)) (by decide) (t := (.array .int)) (t' := .int) (by decide) (by decide)))).other W331 (Or.inr (slot_ne (Or.inl (wd hw 18 rfl)) (Or.inl (wd hw 31 rfl)) (by decide) (t := (.array .int)) (t' := .int) (by decide) (by decide)))).other W353 (Or.inr (slot_ne (Or.inl (wd hw 18 rfl)) (Or.inl (wd hw 40 rfl)) (by decide) (t := (.array .int)) (t' := .double) (by decide) (by decide))))
    have f361 : Arv Z h353 t1 k1 .int (8 : Int32) vL (.int 0) := (((V1.other W327 (neN (by omega))).other W331 (neN (by omega))).other W353 (neN (by omega)))
    have f362 : Fld Z h353 a1 kS0 "amounts" "[D" (.ref t2) := (((F2.other W327 (Or.inr (slot_ne (Or.inl (wd hw 21 rfl)) (Or.inl (wd hw 38 rfl)) (by decide) (t := (.array .double)) (t' := .int) (by decide) (by decide)))).other W331 (Or.inr (slot_ne (Or.inl (wd hw 21 rfl)) (Or.inl (wd hw 31 rfl)) (by decide) (t := (.array .double)) (t' := .int) (by decide) (by decide)))).other W353 (Or.inr (slot_ne (Or.inl (wd hw 21 rfl)) (Or.inl (wd hw 40 rfl)) (by decide) (t := (.array .double)) (t' := .double) (by decide) (by decide))))
    have f363 : Arv Z h353 t2 k2 .double (8 : Int32) vD (.double (0 : UInt64)) := (((V2.other W327 (neN (by omega))).other W331 (neN (by omega))).other W353 (neN (by omega)))
    have f364 : Fld Z h353 a1 kS0 "rears" "[Z" (.ref t3) := (((F3.other W327 (Or.inr (slot_ne (Or.inl (wd hw 24 rfl)) (Or.inl (wd hw 38 rfl)) (by decide) (t := (.array .boolean)) (t' := .int) (by decide) (by decide)))).other W331 (Or.inr (slot_ne (Or.inl (wd hw 24 rfl)) (Or.inl (wd hw 31 rfl)) (by decide) (t := (.array .boolean)) (t' := .int) (by decide) (by decide)))).other W353 (Or.inr (slot_ne (Or.inl (wd hw 24 rfl)) (Or.inl (wd hw 40 rfl)) (by decide) (t := (.array .boolean)) (t' := .double) (by decide) (by decide))))
    have f365 : Arv Z h353 t3 k3 .boolean (8 : Int32) vR (.int 0) := (((V3.other W327 (neN (by omega))).other W331 (neN (by omega))).other W353 (neN (by omega)))
    obtain ⟨fs, hr, hrun, hended, hW, hsame⟩ := X353.leave (v := none) (fun _ => rfl)
    refine ⟨_, _, pre333 _ ?_, hrun, hended, _, _, rfl, ?_, ⟨_, rfl⟩, hW, hsame.mono (by decide) (by decide)⟩
    · show GO p e below T332 (mkF m 63 (la4 a1 d2) [(.int (z1 - (1 : Int32))), (.ref a1)]) _
      refine XS.ifYes X332.here hx rfl (pc0 := 63) (pc' := 70) rfl (hb hby d6_63) rfl ((if0 _ _).trans (feq (hb334 : ¬ ((z1 - (1 : Int32)) = (0 : Int32)))).2) (by decide) (by decide) ?_
      show GO p e below T332 (mkF m 70 (la4 a1 d2) [(.ref a1)]) _
      refine XS.aloadN X332.here hx rfl (hb hby d6_70) rfl rfl ?_
      show GO p e below T332 (mkF m 71 (la4 a1 d2) [(.ref a1), (.ref a1)]) _
      refine st351 _ ?_
      show GO p e below T351 (mkF m 74 (la4 a1 d2) [(.double c1), (.ref a1)]) _
      refine XS.dloadN X351.here hx rfl (hb hby d6_74) rfl ?_
      show GO p e below T351 (mkF m 75 (la4 a1 d2) [(.double d2), (.double c1), (.ref a1)]) _
      refine XS.dsubS X351.here hx rfl (hb hby d6_75) rfl hn rfl ?_
      show GO p e below T351 (mkF m 76 (la4 a1 d2) [(.double (FP.dsub c1 d2)), (.ref a1)]) _
      refine st353 _ ?_
      show GO p e below T353 (mkF m 79 (la4 a1 d2) []) _
      exact X353.returnOut hx Bd.returns (hb hby d6_79) hr
    · show Qrm_takef2 Z a1 d2 z1 c1 x1 t0 k0 vA t1 k1 vL t2 k2 vD t3 k3 vR h0 n0 _ T353.heap _
      rw [e353]
      exact ⟨rfl, N353, ((((Keep.refl h0 [a1, t0, t1, t2, t3]).wr W327 (Or.inl (List.mem_of_getElem? (i := 0) rfl))).wr W331 (Or.inl (List.mem_of_getElem? (i := 0) rfl))).wr W353 (Or.inl (List.mem_of_getElem? (i := 0) rfl))), f355, f356, f357, f354, f358, f359, f360, f361, f362, f363, f364, f365⟩
def Qrm_takep0 (Z : State) (a1 : Addr) (d2 : UInt64) (z1 : Int32) (c1 : UInt64) (x1 : UInt64) (t0 : Addr) (k0 : ClassId) (vA : List Value) (t1 : Addr) (k1 : ClassId) (vL : List Value) (t2 : Addr) (k2 : ClassId) (vD : List Value) (t3 : Addr) (k3 : ClassId) (vR : List Value) (h0 : Heap) (n0 : Nat) (v : Option Value) (h : Heap) (L : List Loc) : Prop := v = none ∧ Fr n0 L ∧ Keep h0 h [a1, t0, t1, t2, t3] ∧ Exa Z h a1 kS0 ∧ Fld Z h a1 kS0 "head" "I" (.int 0) ∧ Fld Z h a1 kS0 "size" "I" (.int z1) ∧ Fld Z h a1 kS0 "content" "D" (.double (if z1 = (0 : Int32) then (0 : UInt64) else FP.dsub c1 d2)) ∧ Fld Z h a1 kS0 "agents" "[I" (.ref t0) ∧ Arv Z h t0 k0 .int (8 : Int32) vA (.int 0) ∧ Fld Z h a1 kS0 "legs" "[I" (.ref t1) ∧ Arv Z h t1 k1 .int (8 : Int32) vL (.int 0) ∧ Fld Z h a1 kS0 "amounts" "[D" (.ref t2) ∧ Arv Z h t2 k2 .double (8 : Int32) (vD.set 0 (.double (FP.dsub x1 d2))) (.double (0 : UInt64)) ∧ Fld Z h a1 kS0 "rears" "[Z" (.ref t3) ∧ Arv Z h t3 k3 .boolean (8 : Int32) vR (.int 0)
theorem ef_rm_takep0 (m : MethodId) (x0 : Addr) (x1 : UInt64) : entryFrame m #[(.ref x0), (.double x1)] 3 = mkF m 0 (la4 x0 x1) [] := by first | rfl | (simp [entryFrame, mkF, argsToLocals, Value.category]; done)
set_option maxRecDepth 65536 in
set_option maxHeartbeats 40000000 in
theorem rm_takep0 (l : Launch) (Z : State) (a0 : Array Value) (hw : ∀ d ∈ tables_1, d.before a0 Z = true) (ws : List Jvm.Cond) (a1 : Addr) (d2 : UInt64) (z1 : Int32) (c1 : UInt64) (x1 : UInt64) (t0 : Addr) (k0 : ClassId) (vA : List Value) (t1 : Addr) (k1 : ClassId) (vL : List Value) (t2 : Addr) (k2 : ClassId) (vD : List Value) (t3 : Addr) (k3 : ClassId) (vR : List Value) (h0 : Heap) (n0 : Nat) (Z0 : n0 ≤ h0.size) (E1 : Exa Z h0 a1 kS0) (Fh : Fld Z h0 a1 kS0 "head" "I" (.int 0)) (Fs : Fld Z h0 a1 kS0 "size" "I" (.int z1)) (Fc : Fld Z h0 a1 kS0 "content" "D" (.double c1)) (F0 : Fld Z h0 a1 kS0 "agents" "[I" (.ref t0)) (V0 : Arv Z h0 t0 k0 .int (8 : Int32) vA (.int 0)) (F1 : Fld Z h0 a1 kS0 "legs" "[I" (.ref t1)) (V1 : Arv Z h0 t1 k1 .int (8 : Int32) vL (.int 0)) (F2 : Fld Z h0 a1 kS0 "amounts" "[D" (.ref t2)) (V2 : Arv Z h0 t2 k2 .double (8 : Int32) vD (.double (0 : UInt64))) (F3 : Fld Z h0 a1 kS0 "rears" "[Z" (.ref t3)) (V3 : Arv Z h0 t3 k3 .boolean (8 : Int32) vR (.int 0)) (len0 : vA.length = 8) (len1 : vL.length = 8) (len2 : vD.length = 8) (len3 : vR.length = 8) (o1 : LT.lt (α := Nat) a1 t0) (o2 : LT.lt (α := Nat) t0 t1) (o3 : LT.lt (α := Nat) t1 t2) (o4 : LT.lt (α := Nat) t2 t3) (g1 : n0 ≤ a1) (hx1 : vD.getD ((0 : Int32)).toNatClampNeg (.double (0 : UInt64)) = (.double x1)) (hcmp : (cmpValue (FP.dcmp d2 x1) .l) < (0 : Int32)) (hn : Jvm.Free.Fl.NoNaN64 (FP.dsub c1 d2)) (hn2 : Jvm.Free.Fl.NoNaN64 (FP.dsub x1 d2)) (hz1 : ¬ (z1 = (0 : Int32))) :
    MetFree l (⟨kS0, "takeFromHead", "(D)V"⟩ : MethodName) (head1 (Jvm.Cond.code (⟨kS0, "takeFromHead", "(D)V"⟩ : MethodName) prog_14_method_12_code 3 none :: ws) ({ frames := 0, cells := 0, slots := 0, locals := 0 } : Room)) (fun a U => a = #[(.ref a1), (.double d2)] ∧ Z.Warmed39 U.vm ∧ U.heap = h0) (fun _ _ _ _ _ => True) (fun _ U o U' => ∃ v L, o = .returned v ∧ Qrm_takep0 Z a1 d2 z1 c1 x1 t0 k0 vA t1 k1 vL t2 k2 vD t3 k3 vR h0 n0 v U'.heap L ∧ FrameEnd U o U' L ({ frames := 0, cells := 0, slots := 0, locals := 0 } : Room).cells ({ frames := 0, cells := 0, slots := 0, locals := 0 } : Room).slots) := by
  refine MetFree.of_bodySF (plainFor_of_name pn_0) hisR ?_
  intro p e s m args below meth c s₁ Bd hml0 hP hK
  obtain ⟨rfl, hZ, hh⟩ := hP
  have hx := Bd.exec
  have hby := Bd.bytes
  have hml : c.maxLocals = 3 := hml0
  have hown : s.vm.findClass kS0 = some m.cls := findClass_of_methodNamed Bd.named
  have hnm := (name_of_methodNamed Bd.named Bd.method).1
  have X0 : Stand p l e ({ frames := 0, cells := 0, slots := 0, locals := 0 } : Room) s m #[(.ref a1), (.double d2)] below meth c s₁ [] 0 0 := Stand.of_body Bd
  have e0 : s₁.heap = h0 := by rw [← hh, Bd.state]; rfl
  have N0 := Fr.nil n0
  have pre0 : ∀ t, Steps p.tables e below (s₁.setTop (mkF m 0 (la4 a1 d2) [])) t → Steps p.tables e below (s₁.setTop (entryFrame m #[(.ref a1), (.double d2)] 3)) t := fun t k => castTop (ef_rm_takep0 m a1 d2) k
  have lt_E1 := ltA E1.lt
  have lt_Fh := ltA Fh.lt
  have lt_Fs := ltA Fs.lt
  have lt_Fc := ltA Fc.lt
  have lt_F0 := ltA F0.lt
  have lt_V0 := ltA V0.lt
  have lt_F1 := ltA F1.lt
  have lt_V1 := ltA V1.lt
  have lt_F2 := ltA F2.lt
  have lt_V2 := ltA V2.lt
  have lt_F3 := ltA F3.lt
  have lt_V3 := ltA V3.lt
  obtain ⟨T366, X366, e366, st366⟩ := getF X0 hx hZ hown (host := "") (Or.inl (wd hw 20 rfl)) Via.refl e0 F2 (g := (mkF m 2 (la4 a1 d2) [(.ref a1), (.double d2)])) rfl rfl (hb hby d6_2)
  obtain ⟨T367, X367, e367, st367⟩ := getF X366 hx hZ hown (host := "") (Or.inl (wd hw 37 rfl)) Via.refl e366 Fh (g := (mkF m 6 (la4 a1 d2) [(.ref a1), (.ref t2), (.double d2)])) rfl rfl (hb hby d6_6)
  obtain ⟨cl368, Ar368, q368, S368, M368, H368, G368⟩ := id V2
  have hin368 : ¬ ((0 : Int32) < 0 ∨ cl368.slots.size ≤ ((0 : Int32)).toNatClampNeg) := inb_of S368 ⟨by decide, by decide⟩
  have hat368 : cl368.slots[((0 : Int32)).toNatClampNeg]? = some (.double x1) := Has.at H368 hin368 hx1
  obtain ⟨T369, X369, e369, st369⟩ := getF X367 hx hZ hown (host := "") (Or.inl (wd hw 20 rfl)) Via.refl e367 F2 (g := (mkF m 46 (la4 a1 d2) [(.ref a1)])) rfl rfl (hb hby d6_46)
  obtain ⟨T370, X370, e370, st370⟩ := getF X369 hx hZ hown (host := "") (Or.inl (wd hw 37 rfl)) Via.refl e369 Fh (g := (mkF m 50 (la4 a1 d2) [(.ref a1), (.ref t2)])) rfl rfl (hb hby d6_50)
  obtain ⟨cl371, Ar371, q371, S371, M371, H371, G371⟩ := id V2
  have hin371 : ¬ ((0 : Int32) < 0 ∨ cl371.slots.size ≤ ((0 : Int32)).toNatClampNeg) := inb_of S371 ⟨by decide, by decide⟩
  have hat371 : cl371.slots[((0 : Int32)).toNatClampNeg]? = some (.double x1) := Has.at H371 hin371 hx1
  obtain ⟨cl372, Ar372, q372, S372, M372, H372, G372⟩ := id V2
  have hin372 : ¬ ((0 : Int32) < 0 ∨ cl372.slots.size ≤ ((0 : Int32)).toNatClampNeg) := inb_of S372 ⟨by decide, by decide⟩
  obtain ⟨T373, h373, X373, e373, W373, st373⟩ := stD X370 hx hZ e370 Ar372 (j := (0 : Int32)) hin372 (g := (mkF m 57 (la4 a1 d2) [(.double (FP.dsub x1 d2)), (.int 0), (.ref t2)])) rfl rfl (hb hby d6_57)
  have N373 := Fr.snoc X373 N0 (by omega : n0 ≤ t2)
  have sz373 : h0.size ≤ h373.size := Nat.le_of_eq W373.size.symm
  have V373 : Arv Z h373 t2 k2 .double (8 : Int32) (vD.set 0 (.double (FP.dsub x1 d2))) (.double (0 : UInt64)) := Arv.set Ar372 q372 S372 M372 H372 G372 rfl W373 0 rfl (by omega)
  have f374 : Fld Z h373 a1 kS0 "size" "I" (.int z1) := (Fs.other W373 (Or.inl (neN (by omega))))
  obtain ⟨T375, X375, e375, st375⟩ := getF X373 hx hZ hown (host := "") (Or.inl (wd hw 30 rfl)) Via.refl e373 f374 (g := (mkF m 60 (la4 a1 d2) [(.ref a1), (.ref a1)])) rfl rfl (hb hby d6_60)
  have f376 : Fld Z h373 a1 kS0 "content" "D" (.double c1) := (Fc.other W373 (Or.inl (neN (by omega))))
  obtain ⟨T377, X377, e377, st377⟩ := getF X375 hx hZ hown (host := "") (Or.inl (wd hw 39 rfl)) Via.refl e375 f376 (g := (mkF m 71 (la4 a1 d2) [(.ref a1), (.ref a1)])) rfl rfl (hb hby d6_71)
  have f378 : Exa Z h373 a1 kS0 := (E1.wr W373)
  obtain ⟨T379, h379, X379, e379, W379, st379⟩ := putF X377 hx hZ hown (host := "") (Or.inl (wd hw 39 rfl)) Via.refl e377 f376 f378 (Or.inl (wd hw 40 rfl)) (wd hw 6 rfl) (ty := .double) (by decide) rfl rfl (g := (mkF m 76 (la4 a1 d2) [(.double (FP.dsub c1 d2)), (.ref a1)])) rfl rfl (hb hby d6_76)
  have N379 := Fr.snoc X379 N373 (by omega : n0 ≤ a1)
  have sz379 : h373.size ≤ h379.size := Nat.le_of_eq W379.size.symm
  have f379 : Fld Z h379 a1 kS0 "content" "D" (.double (FP.dsub c1 d2)) := f376.same W379
  have f380 : Fld Z h379 a1 kS0 "content" "D" (.double (if z1 = (0 : Int32) then (0 : UInt64) else FP.dsub c1 d2)) := by
    have q := f379
    rw [if_neg hz1]
    exact q
  have f381 : Exa Z h379 a1 kS0 := (f378.wr W379)
  have f382 : Fld Z h379 a1 kS0 "head" "I" (.int 0) := ((Fh.other W373 (Or.inl (neN (by omega)))).other W379 (Or.inr (slot_ne (Or.inl (wd hw 38 rfl)) (Or.inl (wd hw 40 rfl)) (by decide) (t := .int) (t' := .double) (by decide) (by decide))))
  have f383 : Fld Z h379 a1 kS0 "size" "I" (.int z1) := (f374.other W379 (Or.inr (slot_ne (Or.inl (wd hw 31 rfl)) (Or.inl (wd hw 40 rfl)) (by decide) (t := .int) (t' := .double) (by decide) (by decide))))
  have f384 : Fld Z h379 a1 kS0 "agents" "[I" (.ref t0) := ((F0.other W373 (Or.inl (neN (by omega)))).other W379 (Or.inr (slot_ne (Or.inl (wd hw 16 rfl)) (Or.inl (wd hw 40 rfl)) (by decide) (t := (.array .int)) (t' := .double) (by decide) (by decide))))
  have f385 : Arv Z h379 t0 k0 .int (8 : Int32) vA (.int 0) := ((V0.other W373 (neN (by omega))).other W379 (neN (by omega)))
  have f386 : Fld Z h379 a1 kS0 "legs" "[I" (.ref t1) := ((F1.other W373 (Or.inl (neN (by omega)))).other W379 (Or.inr (slot_ne (Or.inl (wd hw 18 rfl)) (Or.inl (wd hw 40 rfl)) (by decide) (t := (.array .int)) (t' := .double) (by decide) (by decide))))
  have f387 : Arv Z h379 t1 k1 .int (8 : Int32) vL (.int 0) := ((V1.other W373 (neN (by omega))).other W379 (neN (by omega)))
  have f388 : Fld Z h379 a1 kS0 "amounts" "[D" (.ref t2) := ((F2.other W373 (Or.inl (neN (by omega)))).other W379 (Or.inr (slot_ne (Or.inl (wd hw 21 rfl)) (Or.inl (wd hw 40 rfl)) (by decide) (t := (.array .double)) (t' := .double) (by decide) (by decide))))
  have f389 : Arv Z h379 t2 k2 .double (8 : Int32) (vD.set 0 (.double (FP.dsub x1 d2))) (.double (0 : UInt64)) := (V373.other W379 (neN (by omega)))
  have f390 : Fld Z h379 a1 kS0 "rears" "[Z" (.ref t3) := ((F3.other W373 (Or.inl (neN (by omega)))).other W379 (Or.inr (slot_ne (Or.inl (wd hw 24 rfl)) (Or.inl (wd hw 40 rfl)) (by decide) (t := (.array .boolean)) (t' := .double) (by decide) (by decide))))
  have f391 : Arv Z h379 t3 k3 .boolean (8 : Int32) vR (.int 0) := ((V3.other W373 (neN (by omega))).other W379 (neN (by omega)))
  obtain ⟨fs, hr, hrun, hended, hW, hsame⟩ := X379.leave (v := none) (fun _ => rfl)
  refine ⟨_, _, pre0 _ ?_, hrun, hended, _, _, rfl, ?_, ⟨_, rfl⟩, hW, hsame.mono (by decide) (by decide)⟩
  · show GO p e below s₁ (mkF m 0 (la4 a1 d2) []) _
    refine XS.dloadN X0.here hx rfl (hb hby d6_0) rfl ?_
    show GO p e below s₁ (mkF m 1 (la4 a1 d2) [(.double d2)]) _
    refine XS.aloadN X0.here hx rfl (hb hby d6_1) rfl rfl ?_
    show GO p e below s₁ (mkF m 2 (la4 a1 d2) [(.ref a1), (.double d2)]) _
    refine st366 _ ?_
    show GO p e below T366 (mkF m 5 (la4 a1 d2) [(.ref t2), (.double d2)]) _
    refine XS.aloadN X366.here hx rfl (hb hby d6_5) rfl rfl ?_
    show GO p e below T366 (mkF m 6 (la4 a1 d2) [(.ref a1), (.ref t2), (.double d2)]) _
    refine st367 _ ?_
    show GO p e below T367 (mkF m 9 (la4 a1 d2) [(.int 0), (.ref t2), (.double d2)]) _
    refine X367.daload hx (j := (0 : Int32)) (v := (.double x1)) (by rw [e367]; exact Ar368.1) (State.isArrayOf_alike hZ.alike Ar368.2.1) Ar368.2.2 hin368 hat368 (g := (mkF m 9 (la4 a1 d2) [(.int 0), (.ref t2), (.double d2)])) rfl rfl (hb hby d6_9) _ ?_
    show GO p e below T367 (mkF m 10 (la4 a1 d2) [(.double x1), (.double d2)]) _
    refine XS.dcmpS X367.here hx rfl (hb hby d6_10) rfl rfl ?_
    show GO p e below T367 (mkF m 11 (la4 a1 d2) [(.int (cmpValue (FP.dcmp d2 x1) .l))]) _
    refine XS.ifYes X367.here hx rfl (pc0 := 11) (pc' := 45) rfl (hb hby d6_11) rfl ((if0 _ _).trans (tlt (hcmp : (cmpValue (FP.dcmp d2 x1) .l) < (0 : Int32))).1) (by decide) (by decide) ?_
    show GO p e below T367 (mkF m 45 (la4 a1 d2) []) _
    refine XS.aloadN X367.here hx rfl (hb hby d6_45) rfl rfl ?_
    show GO p e below T367 (mkF m 46 (la4 a1 d2) [(.ref a1)]) _
    refine st369 _ ?_
    show GO p e below T369 (mkF m 49 (la4 a1 d2) [(.ref t2)]) _
    refine XS.aloadN X369.here hx rfl (hb hby d6_49) rfl rfl ?_
    show GO p e below T369 (mkF m 50 (la4 a1 d2) [(.ref a1), (.ref t2)]) _
    refine st370 _ ?_
    show GO p e below T370 (mkF m 53 (la4 a1 d2) [(.int 0), (.ref t2)]) _
    refine Jvm.Free.XT.dup2 X370.here hx rfl (hb hby d6_53) rfl rfl rfl ?_
    show GO p e below T370 (mkF m 54 (la4 a1 d2) [(.int 0), (.ref t2), (.int 0), (.ref t2)]) _
    refine X370.daload hx (j := (0 : Int32)) (v := (.double x1)) (by rw [e370]; exact Ar371.1) (State.isArrayOf_alike hZ.alike Ar371.2.1) Ar371.2.2 hin371 hat371 (g := (mkF m 54 (la4 a1 d2) [(.int 0), (.ref t2), (.int 0), (.ref t2)])) rfl rfl (hb hby d6_54) _ ?_
    show GO p e below T370 (mkF m 55 (la4 a1 d2) [(.double x1), (.int 0), (.ref t2)]) _
    refine XS.dloadN X370.here hx rfl (hb hby d6_55) rfl ?_
    show GO p e below T370 (mkF m 56 (la4 a1 d2) [(.double d2), (.double x1), (.int 0), (.ref t2)]) _
    refine XS.dsubS X370.here hx rfl (hb hby d6_56) rfl hn2 rfl ?_
    show GO p e below T370 (mkF m 57 (la4 a1 d2) [(.double (FP.dsub x1 d2)), (.int 0), (.ref t2)]) _
    refine st373 _ ?_
    show GO p e below T373 (mkF m 58 (la4 a1 d2) []) _
    refine XS.aloadN X373.here hx rfl (hb hby d6_58) rfl rfl ?_
    show GO p e below T373 (mkF m 59 (la4 a1 d2) [(.ref a1)]) _
    refine XS.aloadN X373.here hx rfl (hb hby d6_59) rfl rfl ?_
    show GO p e below T373 (mkF m 60 (la4 a1 d2) [(.ref a1), (.ref a1)]) _
    refine st375 _ ?_
    show GO p e below T375 (mkF m 63 (la4 a1 d2) [(.int z1), (.ref a1)]) _
    refine XS.ifYes X375.here hx rfl (pc0 := 63) (pc' := 70) rfl (hb hby d6_63) rfl ((if0 _ _).trans (feq (hz1 : ¬ (z1 = (0 : Int32)))).2) (by decide) (by decide) ?_
    show GO p e below T375 (mkF m 70 (la4 a1 d2) [(.ref a1)]) _
    refine XS.aloadN X375.here hx rfl (hb hby d6_70) rfl rfl ?_
    show GO p e below T375 (mkF m 71 (la4 a1 d2) [(.ref a1), (.ref a1)]) _
    refine st377 _ ?_
    show GO p e below T377 (mkF m 74 (la4 a1 d2) [(.double c1), (.ref a1)]) _
    refine XS.dloadN X377.here hx rfl (hb hby d6_74) rfl ?_
    show GO p e below T377 (mkF m 75 (la4 a1 d2) [(.double d2), (.double c1), (.ref a1)]) _
    refine XS.dsubS X377.here hx rfl (hb hby d6_75) rfl hn rfl ?_
    show GO p e below T377 (mkF m 76 (la4 a1 d2) [(.double (FP.dsub c1 d2)), (.ref a1)]) _
    refine st379 _ ?_
    show GO p e below T379 (mkF m 79 (la4 a1 d2) []) _
    exact X379.returnOut hx Bd.returns (hb hby d6_79) hr
  · show Qrm_takep0 Z a1 d2 z1 c1 x1 t0 k0 vA t1 k1 vL t2 k2 vD t3 k3 vR h0 n0 _ T379.heap _
    rw [e379]
    exact ⟨rfl, N379, (((Keep.refl h0 [a1, t0, t1, t2, t3]).wr W373 (Or.inl (List.mem_of_getElem? (i := 3) rfl))).wr W379 (Or.inl (List.mem_of_getElem? (i := 0) rfl))), f381, f382, f383, f380, f384, f385, f386, f387, f388, f389, f390, f391⟩
def Qrm_takep1 (Z : State) (a1 : Addr) (d2 : UInt64) (z1 : Int32) (c1 : UInt64) (x1 : UInt64) (t0 : Addr) (k0 : ClassId) (vA : List Value) (t1 : Addr) (k1 : ClassId) (vL : List Value) (t2 : Addr) (k2 : ClassId) (vD : List Value) (t3 : Addr) (k3 : ClassId) (vR : List Value) (h0 : Heap) (n0 : Nat) (v : Option Value) (h : Heap) (L : List Loc) : Prop := v = none ∧ Fr n0 L ∧ Keep h0 h [a1, t0, t1, t2, t3] ∧ Exa Z h a1 kS0 ∧ Fld Z h a1 kS0 "head" "I" (.int 1) ∧ Fld Z h a1 kS0 "size" "I" (.int z1) ∧ Fld Z h a1 kS0 "content" "D" (.double (if z1 = (0 : Int32) then (0 : UInt64) else FP.dsub c1 d2)) ∧ Fld Z h a1 kS0 "agents" "[I" (.ref t0) ∧ Arv Z h t0 k0 .int (8 : Int32) vA (.int 0) ∧ Fld Z h a1 kS0 "legs" "[I" (.ref t1) ∧ Arv Z h t1 k1 .int (8 : Int32) vL (.int 0) ∧ Fld Z h a1 kS0 "amounts" "[D" (.ref t2) ∧ Arv Z h t2 k2 .double (8 : Int32) (vD.set 1 (.double (FP.dsub x1 d2))) (.double (0 : UInt64)) ∧ Fld Z h a1 kS0 "rears" "[Z" (.ref t3) ∧ Arv Z h t3 k3 .boolean (8 : Int32) vR (.int 0)
theorem ef_rm_takep1 (m : MethodId) (x0 : Addr) (x1 : UInt64) : entryFrame m #[(.ref x0), (.double x1)] 3 = mkF m 0 (la4 x0 x1) [] := by first | rfl | (simp [entryFrame, mkF, argsToLocals, Value.category]; done)
set_option maxRecDepth 65536 in
set_option maxHeartbeats 40000000 in
theorem rm_takep1 (l : Launch) (Z : State) (a0 : Array Value) (hw : ∀ d ∈ tables_1, d.before a0 Z = true) (ws : List Jvm.Cond) (a1 : Addr) (d2 : UInt64) (z1 : Int32) (c1 : UInt64) (x1 : UInt64) (t0 : Addr) (k0 : ClassId) (vA : List Value) (t1 : Addr) (k1 : ClassId) (vL : List Value) (t2 : Addr) (k2 : ClassId) (vD : List Value) (t3 : Addr) (k3 : ClassId) (vR : List Value) (h0 : Heap) (n0 : Nat) (Z0 : n0 ≤ h0.size) (E1 : Exa Z h0 a1 kS0) (Fh : Fld Z h0 a1 kS0 "head" "I" (.int 1)) (Fs : Fld Z h0 a1 kS0 "size" "I" (.int z1)) (Fc : Fld Z h0 a1 kS0 "content" "D" (.double c1)) (F0 : Fld Z h0 a1 kS0 "agents" "[I" (.ref t0)) (V0 : Arv Z h0 t0 k0 .int (8 : Int32) vA (.int 0)) (F1 : Fld Z h0 a1 kS0 "legs" "[I" (.ref t1)) (V1 : Arv Z h0 t1 k1 .int (8 : Int32) vL (.int 0)) (F2 : Fld Z h0 a1 kS0 "amounts" "[D" (.ref t2)) (V2 : Arv Z h0 t2 k2 .double (8 : Int32) vD (.double (0 : UInt64))) (F3 : Fld Z h0 a1 kS0 "rears" "[Z" (.ref t3)) (V3 : Arv Z h0 t3 k3 .boolean (8 : Int32) vR (.int 0)) (len0 : vA.length = 8) (len1 : vL.length = 8) (len2 : vD.length = 8) (len3 : vR.length = 8) (o1 : LT.lt (α := Nat) a1 t0) (o2 : LT.lt (α := Nat) t0 t1) (o3 : LT.lt (α := Nat) t1 t2) (o4 : LT.lt (α := Nat) t2 t3) (g1 : n0 ≤ a1) (hx1 : vD.getD ((1 : Int32)).toNatClampNeg (.double (0 : UInt64)) = (.double x1)) (hcmp : (cmpValue (FP.dcmp d2 x1) .l) < (0 : Int32)) (hn : Jvm.Free.Fl.NoNaN64 (FP.dsub c1 d2)) (hn2 : Jvm.Free.Fl.NoNaN64 (FP.dsub x1 d2)) (hz1 : ¬ (z1 = (0 : Int32))) :
    MetFree l (⟨kS0, "takeFromHead", "(D)V"⟩ : MethodName) (head1 (Jvm.Cond.code (⟨kS0, "takeFromHead", "(D)V"⟩ : MethodName) prog_14_method_12_code 3 none :: ws) ({ frames := 0, cells := 0, slots := 0, locals := 0 } : Room)) (fun a U => a = #[(.ref a1), (.double d2)] ∧ Z.Warmed39 U.vm ∧ U.heap = h0) (fun _ _ _ _ _ => True) (fun _ U o U' => ∃ v L, o = .returned v ∧ Qrm_takep1 Z a1 d2 z1 c1 x1 t0 k0 vA t1 k1 vL t2 k2 vD t3 k3 vR h0 n0 v U'.heap L ∧ FrameEnd U o U' L ({ frames := 0, cells := 0, slots := 0, locals := 0 } : Room).cells ({ frames := 0, cells := 0, slots := 0, locals := 0 } : Room).slots) := by
  refine MetFree.of_bodySF (plainFor_of_name pn_0) hisR ?_
  intro p e s m args below meth c s₁ Bd hml0 hP hK
  obtain ⟨rfl, hZ, hh⟩ := hP
  have hx := Bd.exec
  have hby := Bd.bytes
  have hml : c.maxLocals = 3 := hml0
  have hown : s.vm.findClass kS0 = some m.cls := findClass_of_methodNamed Bd.named
  have hnm := (name_of_methodNamed Bd.named Bd.method).1
  have X0 : Stand p l e ({ frames := 0, cells := 0, slots := 0, locals := 0 } : Room) s m #[(.ref a1), (.double d2)] below meth c s₁ [] 0 0 := Stand.of_body Bd
  have e0 : s₁.heap = h0 := by rw [← hh, Bd.state]; rfl
  have N0 := Fr.nil n0
  have pre0 : ∀ t, Steps p.tables e below (s₁.setTop (mkF m 0 (la4 a1 d2) [])) t → Steps p.tables e below (s₁.setTop (entryFrame m #[(.ref a1), (.double d2)] 3)) t := fun t k => castTop (ef_rm_takep1 m a1 d2) k
  have lt_E1 := ltA E1.lt
  have lt_Fh := ltA Fh.lt
  have lt_Fs := ltA Fs.lt
  have lt_Fc := ltA Fc.lt
  have lt_F0 := ltA F0.lt
  have lt_V0 := ltA V0.lt
  have lt_F1 := ltA F1.lt
  have lt_V1 := ltA V1.lt
  have lt_F2 := ltA F2.lt
  have lt_V2 := ltA V2.lt
  have lt_F3 := ltA F3.lt
  have lt_V3 := ltA V3.lt
  obtain ⟨T392, X392, e392, st392⟩ := getF X0 hx hZ hown (host := "") (Or.inl (wd hw 20 rfl)) Via.refl e0 F2 (g := (mkF m 2 (la4 a1 d2) [(.ref a1), (.double d2)])) rfl rfl (hb hby d6_2)
  obtain ⟨T393, X393, e393, st393⟩ := getF X392 hx hZ hown (host := "") (Or.inl (wd hw 37 rfl)) Via.refl e392 Fh (g := (mkF m 6 (la4 a1 d2) [(.ref a1), (.ref t2), (.double d2)])) rfl rfl (hb hby d6_6)
  obtain ⟨cl394, Ar394, q394, S394, M394, H394, G394⟩ := id V2
  have hin394 : ¬ ((1 : Int32) < 0 ∨ cl394.slots.size ≤ ((1 : Int32)).toNatClampNeg) := inb_of S394 ⟨by decide, by decide⟩
  have hat394 : cl394.slots[((1 : Int32)).toNatClampNeg]? = some (.double x1) := Has.at H394 hin394 hx1
  obtain ⟨T395, X395, e395, st395⟩ := getF X393 hx hZ hown (host := "") (Or.inl (wd hw 20 rfl)) Via.refl e393 F2 (g := (mkF m 46 (la4 a1 d2) [(.ref a1)])) rfl rfl (hb hby d6_46)
  obtain ⟨T396, X396, e396, st396⟩ := getF X395 hx hZ hown (host := "") (Or.inl (wd hw 37 rfl)) Via.refl e395 Fh (g := (mkF m 50 (la4 a1 d2) [(.ref a1), (.ref t2)])) rfl rfl (hb hby d6_50)
  obtain ⟨cl397, Ar397, q397, S397, M397, H397, G397⟩ := id V2
  have hin397 : ¬ ((1 : Int32) < 0 ∨ cl397.slots.size ≤ ((1 : Int32)).toNatClampNeg) := inb_of S397 ⟨by decide, by decide⟩
  have hat397 : cl397.slots[((1 : Int32)).toNatClampNeg]? = some (.double x1) := Has.at H397 hin397 hx1
  obtain ⟨cl398, Ar398, q398, S398, M398, H398, G398⟩ := id V2
  have hin398 : ¬ ((1 : Int32) < 0 ∨ cl398.slots.size ≤ ((1 : Int32)).toNatClampNeg) := inb_of S398 ⟨by decide, by decide⟩
  obtain ⟨T399, h399, X399, e399, W399, st399⟩ := stD X396 hx hZ e396 Ar398 (j := (1 : Int32)) hin398 (g := (mkF m 57 (la4 a1 d2) [(.double (FP.dsub x1 d2)), (.int 1), (.ref t2)])) rfl rfl (hb hby d6_57)
  have N399 := Fr.snoc X399 N0 (by omega : n0 ≤ t2)
  have sz399 : h0.size ≤ h399.size := Nat.le_of_eq W399.size.symm
  have V399 : Arv Z h399 t2 k2 .double (8 : Int32) (vD.set 1 (.double (FP.dsub x1 d2))) (.double (0 : UInt64)) := Arv.set Ar398 q398 S398 M398 H398 G398 rfl W399 1 rfl (by omega)
  have f400 : Fld Z h399 a1 kS0 "size" "I" (.int z1) := (Fs.other W399 (Or.inl (neN (by omega))))
  obtain ⟨T401, X401, e401, st401⟩ := getF X399 hx hZ hown (host := "") (Or.inl (wd hw 30 rfl)) Via.refl e399 f400 (g := (mkF m 60 (la4 a1 d2) [(.ref a1), (.ref a1)])) rfl rfl (hb hby d6_60)
  have f402 : Fld Z h399 a1 kS0 "content" "D" (.double c1) := (Fc.other W399 (Or.inl (neN (by omega))))
  obtain ⟨T403, X403, e403, st403⟩ := getF X401 hx hZ hown (host := "") (Or.inl (wd hw 39 rfl)) Via.refl e401 f402 (g := (mkF m 71 (la4 a1 d2) [(.ref a1), (.ref a1)])) rfl rfl (hb hby d6_71)
  have f404 : Exa Z h399 a1 kS0 := (E1.wr W399)
  obtain ⟨T405, h405, X405, e405, W405, st405⟩ := putF X403 hx hZ hown (host := "") (Or.inl (wd hw 39 rfl)) Via.refl e403 f402 f404 (Or.inl (wd hw 40 rfl)) (wd hw 6 rfl) (ty := .double) (by decide) rfl rfl (g := (mkF m 76 (la4 a1 d2) [(.double (FP.dsub c1 d2)), (.ref a1)])) rfl rfl (hb hby d6_76)
  have N405 := Fr.snoc X405 N399 (by omega : n0 ≤ a1)
  have sz405 : h399.size ≤ h405.size := Nat.le_of_eq W405.size.symm
  have f405 : Fld Z h405 a1 kS0 "content" "D" (.double (FP.dsub c1 d2)) := f402.same W405
  have f406 : Fld Z h405 a1 kS0 "content" "D" (.double (if z1 = (0 : Int32) then (0 : UInt64) else FP.dsub c1 d2)) := by
    have q := f405
    rw [if_neg hz1]
    exact q
  have f407 : Exa Z h405 a1 kS0 := (f404.wr W405)
  have f408 : Fld Z h405 a1 kS0 "head" "I" (.int 1) := ((Fh.other W399 (Or.inl (neN (by omega)))).other W405 (Or.inr (slot_ne (Or.inl (wd hw 38 rfl)) (Or.inl (wd hw 40 rfl)) (by decide) (t := .int) (t' := .double) (by decide) (by decide))))
  have f409 : Fld Z h405 a1 kS0 "size" "I" (.int z1) := (f400.other W405 (Or.inr (slot_ne (Or.inl (wd hw 31 rfl)) (Or.inl (wd hw 40 rfl)) (by decide) (t := .int) (t' := .double) (by decide) (by decide))))
  have f410 : Fld Z h405 a1 kS0 "agents" "[I" (.ref t0) := ((F0.other W399 (Or.inl (neN (by omega)))).other W405 (Or.inr (slot_ne (Or.inl (wd hw 16 rfl)) (Or.inl (wd hw 40 rfl)) (by decide) (t := (.array .int)) (t' := .double) (by decide) (by decide))))
  have f411 : Arv Z h405 t0 k0 .int (8 : Int32) vA (.int 0) := ((V0.other W399 (neN (by omega))).other W405 (neN (by omega)))
  have f412 : Fld Z h405 a1 kS0 "legs" "[I" (.ref t1) := ((F1.other W399 (Or.inl (neN (by omega)))).other W405 (Or.inr (slot_ne (Or.inl (wd hw 18 rfl)) (Or.inl (wd hw 40 rfl)) (by decide) (t := (.array .int)) (t' := .double) (by decide) (by decide))))
  have f413 : Arv Z h405 t1 k1 .int (8 : Int32) vL (.int 0) := ((V1.other W399 (neN (by omega))).other W405 (neN (by omega)))
  have f414 : Fld Z h405 a1 kS0 "amounts" "[D" (.ref t2) := ((F2.other W399 (Or.inl (neN (by omega)))).other W405 (Or.inr (slot_ne (Or.inl (wd hw 21 rfl)) (Or.inl (wd hw 40 rfl)) (by decide) (t := (.array .double)) (t' := .double) (by decide) (by decide))))
  have f415 : Arv Z h405 t2 k2 .double (8 : Int32) (vD.set 1 (.double (FP.dsub x1 d2))) (.double (0 : UInt64)) := (V399.other W405 (neN (by omega)))
  have f416 : Fld Z h405 a1 kS0 "rears" "[Z" (.ref t3) := ((F3.other W399 (Or.inl (neN (by omega)))).other W405 (Or.inr (slot_ne (Or.inl (wd hw 24 rfl)) (Or.inl (wd hw 40 rfl)) (by decide) (t := (.array .boolean)) (t' := .double) (by decide) (by decide))))
  have f417 : Arv Z h405 t3 k3 .boolean (8 : Int32) vR (.int 0) := ((V3.other W399 (neN (by omega))).other W405 (neN (by omega)))
  obtain ⟨fs, hr, hrun, hended, hW, hsame⟩ := X405.leave (v := none) (fun _ => rfl)
  refine ⟨_, _, pre0 _ ?_, hrun, hended, _, _, rfl, ?_, ⟨_, rfl⟩, hW, hsame.mono (by decide) (by decide)⟩
  · show GO p e below s₁ (mkF m 0 (la4 a1 d2) []) _
    refine XS.dloadN X0.here hx rfl (hb hby d6_0) rfl ?_
    show GO p e below s₁ (mkF m 1 (la4 a1 d2) [(.double d2)]) _
    refine XS.aloadN X0.here hx rfl (hb hby d6_1) rfl rfl ?_
    show GO p e below s₁ (mkF m 2 (la4 a1 d2) [(.ref a1), (.double d2)]) _
    refine st392 _ ?_
    show GO p e below T392 (mkF m 5 (la4 a1 d2) [(.ref t2), (.double d2)]) _
    refine XS.aloadN X392.here hx rfl (hb hby d6_5) rfl rfl ?_
    show GO p e below T392 (mkF m 6 (la4 a1 d2) [(.ref a1), (.ref t2), (.double d2)]) _
    refine st393 _ ?_
    show GO p e below T393 (mkF m 9 (la4 a1 d2) [(.int 1), (.ref t2), (.double d2)]) _
    refine X393.daload hx (j := (1 : Int32)) (v := (.double x1)) (by rw [e393]; exact Ar394.1) (State.isArrayOf_alike hZ.alike Ar394.2.1) Ar394.2.2 hin394 hat394 (g := (mkF m 9 (la4 a1 d2) [(.int 1), (.ref t2), (.double d2)])) rfl rfl (hb hby d6_9) _ ?_
    show GO p e below T393 (mkF m 10 (la4 a1 d2) [(.double x1), (.double d2)]) _
    refine XS.dcmpS X393.here hx rfl (hb hby d6_10) rfl rfl ?_
    show GO p e below T393 (mkF m 11 (la4 a1 d2) [(.int (cmpValue (FP.dcmp d2 x1) .l))]) _
    refine XS.ifYes X393.here hx rfl (pc0 := 11) (pc' := 45) rfl (hb hby d6_11) rfl ((if0 _ _).trans (tlt (hcmp : (cmpValue (FP.dcmp d2 x1) .l) < (0 : Int32))).1) (by decide) (by decide) ?_
    show GO p e below T393 (mkF m 45 (la4 a1 d2) []) _
    refine XS.aloadN X393.here hx rfl (hb hby d6_45) rfl rfl ?_
    show GO p e below T393 (mkF m 46 (la4 a1 d2) [(.ref a1)]) _
    refine st395 _ ?_
    show GO p e below T395 (mkF m 49 (la4 a1 d2) [(.ref t2)]) _
    refine XS.aloadN X395.here hx rfl (hb hby d6_49) rfl rfl ?_
    show GO p e below T395 (mkF m 50 (la4 a1 d2) [(.ref a1), (.ref t2)]) _
    refine st396 _ ?_
    show GO p e below T396 (mkF m 53 (la4 a1 d2) [(.int 1), (.ref t2)]) _
    refine Jvm.Free.XT.dup2 X396.here hx rfl (hb hby d6_53) rfl rfl rfl ?_
    show GO p e below T396 (mkF m 54 (la4 a1 d2) [(.int 1), (.ref t2), (.int 1), (.ref t2)]) _
    refine X396.daload hx (j := (1 : Int32)) (v := (.double x1)) (by rw [e396]; exact Ar397.1) (State.isArrayOf_alike hZ.alike Ar397.2.1) Ar397.2.2 hin397 hat397 (g := (mkF m 54 (la4 a1 d2) [(.int 1), (.ref t2), (.int 1), (.ref t2)])) rfl rfl (hb hby d6_54) _ ?_
    show GO p e below T396 (mkF m 55 (la4 a1 d2) [(.double x1), (.int 1), (.ref t2)]) _
    refine XS.dloadN X396.here hx rfl (hb hby d6_55) rfl ?_
    show GO p e below T396 (mkF m 56 (la4 a1 d2) [(.double d2), (.double x1), (.int 1), (.ref t2)]) _
    refine XS.dsubS X396.here hx rfl (hb hby d6_56) rfl hn2 rfl ?_
    show GO p e below T396 (mkF m 57 (la4 a1 d2) [(.double (FP.dsub x1 d2)), (.int 1), (.ref t2)]) _
    refine st399 _ ?_
    show GO p e below T399 (mkF m 58 (la4 a1 d2) []) _
    refine XS.aloadN X399.here hx rfl (hb hby d6_58) rfl rfl ?_
    show GO p e below T399 (mkF m 59 (la4 a1 d2) [(.ref a1)]) _
    refine XS.aloadN X399.here hx rfl (hb hby d6_59) rfl rfl ?_
    show GO p e below T399 (mkF m 60 (la4 a1 d2) [(.ref a1), (.ref a1)]) _
    refine st401 _ ?_
    show GO p e below T401 (mkF m 63 (la4 a1 d2) [(.int z1), (.ref a1)]) _
    refine XS.ifYes X401.here hx rfl (pc0 := 63) (pc' := 70) rfl (hb hby d6_63) rfl ((if0 _ _).trans (feq (hz1 : ¬ (z1 = (0 : Int32)))).2) (by decide) (by decide) ?_
    show GO p e below T401 (mkF m 70 (la4 a1 d2) [(.ref a1)]) _
    refine XS.aloadN X401.here hx rfl (hb hby d6_70) rfl rfl ?_
    show GO p e below T401 (mkF m 71 (la4 a1 d2) [(.ref a1), (.ref a1)]) _
    refine st403 _ ?_
    show GO p e below T403 (mkF m 74 (la4 a1 d2) [(.double c1), (.ref a1)]) _
    refine XS.dloadN X403.here hx rfl (hb hby d6_74) rfl ?_
    show GO p e below T403 (mkF m 75 (la4 a1 d2) [(.double d2), (.double c1), (.ref a1)]) _
    refine XS.dsubS X403.here hx rfl (hb hby d6_75) rfl hn rfl ?_
    show GO p e below T403 (mkF m 76 (la4 a1 d2) [(.double (FP.dsub c1 d2)), (.ref a1)]) _
    refine st405 _ ?_
    show GO p e below T405 (mkF m 79 (la4 a1 d2) []) _
    exact X405.returnOut hx Bd.returns (hb hby d6_79) hr
  · show Qrm_takep1 Z a1 d2 z1 c1 x1 t0 k0 vA t1 k1 vL t2 k2 vD t3 k3 vR h0 n0 _ T405.heap _
    rw [e405]
    exact ⟨rfl, N405, (((Keep.refl h0 [a1, t0, t1, t2, t3]).wr W399 (Or.inl (List.mem_of_getElem? (i := 3) rfl))).wr W405 (Or.inl (List.mem_of_getElem? (i := 0) rfl))), f407, f408, f409, f406, f410, f411, f412, f413, f414, f415, f416, f417⟩
def Qrm_takep2 (Z : State) (a1 : Addr) (d2 : UInt64) (z1 : Int32) (c1 : UInt64) (x1 : UInt64) (t0 : Addr) (k0 : ClassId) (vA : List Value) (t1 : Addr) (k1 : ClassId) (vL : List Value) (t2 : Addr) (k2 : ClassId) (vD : List Value) (t3 : Addr) (k3 : ClassId) (vR : List Value) (h0 : Heap) (n0 : Nat) (v : Option Value) (h : Heap) (L : List Loc) : Prop := v = none ∧ Fr n0 L ∧ Keep h0 h [a1, t0, t1, t2, t3] ∧ Exa Z h a1 kS0 ∧ Fld Z h a1 kS0 "head" "I" (.int 2) ∧ Fld Z h a1 kS0 "size" "I" (.int z1) ∧ Fld Z h a1 kS0 "content" "D" (.double (if z1 = (0 : Int32) then (0 : UInt64) else FP.dsub c1 d2)) ∧ Fld Z h a1 kS0 "agents" "[I" (.ref t0) ∧ Arv Z h t0 k0 .int (8 : Int32) vA (.int 0) ∧ Fld Z h a1 kS0 "legs" "[I" (.ref t1) ∧ Arv Z h t1 k1 .int (8 : Int32) vL (.int 0) ∧ Fld Z h a1 kS0 "amounts" "[D" (.ref t2) ∧ Arv Z h t2 k2 .double (8 : Int32) (vD.set 2 (.double (FP.dsub x1 d2))) (.double (0 : UInt64)) ∧ Fld Z h a1 kS0 "rears" "[Z" (.ref t3) ∧ Arv Z h t3 k3 .boolean (8 : Int32) vR (.int 0)
theorem ef_rm_takep2 (m : MethodId) (x0 : Addr) (x1 : UInt64) : entryFrame m #[(.ref x0), (.double x1)] 3 = mkF m 0 (la4 x0 x1) [] := by first | rfl | (simp [entryFrame, mkF, argsToLocals, Value.category]; done)
set_option maxRecDepth 65536 in
set_option maxHeartbeats 40000000 in
theorem rm_takep2 (l : Launch) (Z : State) (a0 : Array Value) (hw : ∀ d ∈ tables_1, d.before a0 Z = true) (ws : List Jvm.Cond) (a1 : Addr) (d2 : UInt64) (z1 : Int32) (c1 : UInt64) (x1 : UInt64) (t0 : Addr) (k0 : ClassId) (vA : List Value) (t1 : Addr) (k1 : ClassId) (vL : List Value) (t2 : Addr) (k2 : ClassId) (vD : List Value) (t3 : Addr) (k3 : ClassId) (vR : List Value) (h0 : Heap) (n0 : Nat) (Z0 : n0 ≤ h0.size) (E1 : Exa Z h0 a1 kS0) (Fh : Fld Z h0 a1 kS0 "head" "I" (.int 2)) (Fs : Fld Z h0 a1 kS0 "size" "I" (.int z1)) (Fc : Fld Z h0 a1 kS0 "content" "D" (.double c1)) (F0 : Fld Z h0 a1 kS0 "agents" "[I" (.ref t0)) (V0 : Arv Z h0 t0 k0 .int (8 : Int32) vA (.int 0)) (F1 : Fld Z h0 a1 kS0 "legs" "[I" (.ref t1)) (V1 : Arv Z h0 t1 k1 .int (8 : Int32) vL (.int 0)) (F2 : Fld Z h0 a1 kS0 "amounts" "[D" (.ref t2)) (V2 : Arv Z h0 t2 k2 .double (8 : Int32) vD (.double (0 : UInt64))) (F3 : Fld Z h0 a1 kS0 "rears" "[Z" (.ref t3)) (V3 : Arv Z h0 t3 k3 .boolean (8 : Int32) vR (.int 0)) (len0 : vA.length = 8) (len1 : vL.length = 8) (len2 : vD.length = 8) (len3 : vR.length = 8) (o1 : LT.lt (α := Nat) a1 t0) (o2 : LT.lt (α := Nat) t0 t1) (o3 : LT.lt (α := Nat) t1 t2) (o4 : LT.lt (α := Nat) t2 t3) (g1 : n0 ≤ a1) (hx1 : vD.getD ((2 : Int32)).toNatClampNeg (.double (0 : UInt64)) = (.double x1)) (hcmp : (cmpValue (FP.dcmp d2 x1) .l) < (0 : Int32)) (hn : Jvm.Free.Fl.NoNaN64 (FP.dsub c1 d2)) (hn2 : Jvm.Free.Fl.NoNaN64 (FP.dsub x1 d2)) (hz1 : ¬ (z1 = (0 : Int32))) :
    MetFree l (⟨kS0, "takeFromHead", "(D)V"⟩ : MethodName) (head1 (Jvm.Cond.code (⟨kS0, "takeFromHead", "(D)V"⟩ : MethodName) prog_14_method_12_code 3 none :: ws) ({ frames := 0, cells := 0, slots := 0, locals := 0 } : Room)) (fun a U => a = #[(.ref a1), (.double d2)] ∧ Z.Warmed39 U.vm ∧ U.heap = h0) (fun _ _ _ _ _ => True) (fun _ U o U' => ∃ v L, o = .returned v ∧ Qrm_takep2 Z a1 d2 z1 c1 x1 t0 k0 vA t1 k1 vL t2 k2 vD t3 k3 vR h0 n0 v U'.heap L ∧ FrameEnd U o U' L ({ frames := 0, cells := 0, slots := 0, locals := 0 } : Room).cells ({ frames := 0, cells := 0, slots := 0, locals := 0 } : Room).slots) := by
  refine MetFree.of_bodySF (plainFor_of_name pn_0) hisR ?_
  intro p e s m args below meth c s₁ Bd hml0 hP hK
  obtain ⟨rfl, hZ, hh⟩ := hP
  have hx := Bd.exec
  have hby := Bd.bytes
  have hml : c.maxLocals = 3 := hml0
  have hown : s.vm.findClass kS0 = some m.cls := findClass_of_methodNamed Bd.named
  have hnm := (name_of_methodNamed Bd.named Bd.method).1
  have X0 : Stand p l e ({ frames := 0, cells := 0, slots := 0, locals := 0 } : Room) s m #[(.ref a1), (.double d2)] below meth c s₁ [] 0 0 := Stand.of_body Bd
  have e0 : s₁.heap = h0 := by rw [← hh, Bd.state]; rfl
  have N0 := Fr.nil n0
  have pre0 : ∀ t, Steps p.tables e below (s₁.setTop (mkF m 0 (la4 a1 d2) [])) t → Steps p.tables e below (s₁.setTop (entryFrame m #[(.ref a1), (.double d2)] 3)) t := fun t k => castTop (ef_rm_takep2 m a1 d2) k
  have lt_E1 := ltA E1.lt
  have lt_Fh := ltA Fh.lt
  have lt_Fs := ltA Fs.lt
  have lt_Fc := ltA Fc.lt
  have lt_F0 := ltA F0.lt
  have lt_V0 := ltA V0.lt
  have lt_F1 := ltA F1.lt
  have lt_V1 := ltA V1.lt
  have lt_F2 := ltA F2.lt
  have lt_V2 := ltA V2.lt
  have lt_F3 := ltA F3.lt
  have lt_V3 := ltA V3.lt
  obtain ⟨T418, X418, e418, st418⟩ := getF X0 hx hZ hown (host := "") (Or.inl (wd hw 20 rfl)) Via.refl e0 F2 (g := (mkF m 2 (la4 a1 d2) [(.ref a1), (.double d2)])) rfl rfl (hb hby d6_2)
  obtain ⟨T419, X419, e419, st419⟩ := getF X418 hx hZ hown (host := "") (Or.inl (wd hw 37 rfl)) Via.refl e418 Fh (g := (mkF m 6 (la4 a1 d2) [(.ref a1), (.ref t2), (.double d2)])) rfl rfl (hb hby d6_6)
  obtain ⟨cl420, Ar420, q420, S420, M420, H420, G420⟩ := id V2
  have hin420 : ¬ ((2 : Int32) < 0 ∨ cl420.slots.size ≤ ((2 : Int32)).toNatClampNeg) := inb_of S420 ⟨by decide, by decide⟩
  have hat420 : cl420.slots[((2 : Int32)).toNatClampNeg]? = some (.double x1) := Has.at H420 hin420 hx1
  obtain ⟨T421, X421, e421, st421⟩ := getF X419 hx hZ hown (host := "") (Or.inl (wd hw 20 rfl)) Via.refl e419 F2 (g := (mkF m 46 (la4 a1 d2) [(.ref a1)])) rfl rfl (hb hby d6_46)
  obtain ⟨T422, X422, e422, st422⟩ := getF X421 hx hZ hown (host := "") (Or.inl (wd hw 37 rfl)) Via.refl e421 Fh (g := (mkF m 50 (la4 a1 d2) [(.ref a1), (.ref t2)])) rfl rfl (hb hby d6_50)
  obtain ⟨cl423, Ar423, q423, S423, M423, H423, G423⟩ := id V2
  have hin423 : ¬ ((2 : Int32) < 0 ∨ cl423.slots.size ≤ ((2 : Int32)).toNatClampNeg) := inb_of S423 ⟨by decide, by decide⟩
  have hat423 : cl423.slots[((2 : Int32)).toNatClampNeg]? = some (.double x1) := Has.at H423 hin423 hx1
  obtain ⟨cl424, Ar424, q424, S424, M424, H424, G424⟩ := id V2
  have hin424 : ¬ ((2 : Int32) < 0 ∨ cl424.slots.size ≤ ((2 : Int32)).toNatClampNeg) := inb_of S424 ⟨by decide, by decide⟩
  obtain ⟨T425, h425, X425, e425, W425, st425⟩ := stD X422 hx hZ e422 Ar424 (j := (2 : Int32)) hin424 (g := (mkF m 57 (la4 a1 d2) [(.double (FP.dsub x1 d2)), (.int 2), (.ref t2)])) rfl rfl (hb hby d6_57)
  have N425 := Fr.snoc X425 N0 (by omega : n0 ≤ t2)
  have sz425 : h0.size ≤ h425.size := Nat.le_of_eq W425.size.symm
  have V425 : Arv Z h425 t2 k2 .double (8 : Int32) (vD.set 2 (.double (FP.dsub x1 d2))) (.double (0 : UInt64)) := Arv.set Ar424 q424 S424 M424 H424 G424 rfl W425 2 rfl (by omega)
  have f426 : Fld Z h425 a1 kS0 "size" "I" (.int z1) := (Fs.other W425 (Or.inl (neN (by omega))))
  obtain ⟨T427, X427, e427, st427⟩ := getF X425 hx hZ hown (host := "") (Or.inl (wd hw 30 rfl)) Via.refl e425 f426 (g := (mkF m 60 (la4 a1 d2) [(.ref a1), (.ref a1)])) rfl rfl (hb hby d6_60)
  have f428 : Fld Z h425 a1 kS0 "content" "D" (.double c1) := (Fc.other W425 (Or.inl (neN (by omega))))
  obtain ⟨T429, X429, e429, st429⟩ := getF X427 hx hZ hown (host := "") (Or.inl (wd hw 39 rfl)) Via.refl e427 f428 (g := (mkF m 71 (la4 a1 d2) [(.ref a1), (.ref a1)])) rfl rfl (hb hby d6_71)
  have f430 : Exa Z h425 a1 kS0 := (E1.wr W425)
  obtain ⟨T431, h431, X431, e431, W431, st431⟩ := putF X429 hx hZ hown (host := "") (Or.inl (wd hw 39 rfl)) Via.refl e429 f428 f430 (Or.inl (wd hw 40 rfl)) (wd hw 6 rfl) (ty := .double) (by decide) rfl rfl (g := (mkF m 76 (la4 a1 d2) [(.double (FP.dsub c1 d2)), (.ref a1)])) rfl rfl (hb hby d6_76)
  have N431 := Fr.snoc X431 N425 (by omega : n0 ≤ a1)
  have sz431 : h425.size ≤ h431.size := Nat.le_of_eq W431.size.symm
  have f431 : Fld Z h431 a1 kS0 "content" "D" (.double (FP.dsub c1 d2)) := f428.same W431
  have f432 : Fld Z h431 a1 kS0 "content" "D" (.double (if z1 = (0 : Int32) then (0 : UInt64) else FP.dsub c1 d2)) := by
    have q := f431
    rw [if_neg hz1]
    exact q
  have f433 : Exa Z h431 a1 kS0 := (f430.wr W431)
  have f434 : Fld Z h431 a1 kS0 "head" "I" (.int 2) := ((Fh.other W425 (Or.inl (neN (by omega)))).other W431 (Or.inr (slot_ne (Or.inl (wd hw 38 rfl)) (Or.inl (wd hw 40 rfl)) (by decide) (t := .int) (t' := .double) (by decide) (by decide))))
  have f435 : Fld Z h431 a1 kS0 "size" "I" (.int z1) := (f426.other W431 (Or.inr (slot_ne (Or.inl (wd hw 31 rfl)) (Or.inl (wd hw 40 rfl)) (by decide) (t := .int) (t' := .double) (by decide) (by decide))))
  have f436 : Fld Z h431 a1 kS0 "agents" "[I" (.ref t0) := ((F0.other W425 (Or.inl (neN (by omega)))).other W431 (Or.inr (slot_ne (Or.inl (wd hw 16 rfl)) (Or.inl (wd hw 40 rfl)) (by decide) (t := (.array .int)) (t' := .double) (by decide) (by decide))))
  have f437 : Arv Z h431 t0 k0 .int (8 : Int32) vA (.int 0) := ((V0.other W425 (neN (by omega))).other W431 (neN (by omega)))
  have f438 : Fld Z h431 a1 kS0 "legs" "[I" (.ref t1) := ((F1.other W425 (Or.inl (neN (by omega)))).other W431 (Or.inr (slot_ne (Or.inl (wd hw 18 rfl)) (Or.inl (wd hw 40 rfl)) (by decide) (t := (.array .int)) (t' := .double) (by decide) (by decide))))
  have f439 : Arv Z h431 t1 k1 .int (8 : Int32) vL (.int 0) := ((V1.other W425 (neN (by omega))).other W431 (neN (by omega)))
  have f440 : Fld Z h431 a1 kS0 "amounts" "[D" (.ref t2) := ((F2.other W425 (Or.inl (neN (by omega)))).other W431 (Or.inr (slot_ne (Or.inl (wd hw 21 rfl)) (Or.inl (wd hw 40 rfl)) (by decide) (t := (.array .double)) (t' := .double) (by decide) (by decide))))
  have f441 : Arv Z h431 t2 k2 .double (8 : Int32) (vD.set 2 (.double (FP.dsub x1 d2))) (.double (0 : UInt64)) := (V425.other W431 (neN (by omega)))
  have f442 : Fld Z h431 a1 kS0 "rears" "[Z" (.ref t3) := ((F3.other W425 (Or.inl (neN (by omega)))).other W431 (Or.inr (slot_ne (Or.inl (wd hw 24 rfl)) (Or.inl (wd hw 40 rfl)) (by decide) (t := (.array .boolean)) (t' := .double) (by decide) (by decide))))
  have f443 : Arv Z h431 t3 k3 .boolean (8 : Int32) vR (.int 0) := ((V3.other W425 (neN (by omega))).other W431 (neN (by omega)))
  obtain ⟨fs, hr, hrun, hended, hW, hsame⟩ := X431.leave (v := none) (fun _ => rfl)
  refine ⟨_, _, pre0 _ ?_, hrun, hended, _, _, rfl, ?_, ⟨_, rfl⟩, hW, hsame.mono (by decide) (by decide)⟩
  · show GO p e below s₁ (mkF m 0 (la4 a1 d2) []) _
    refine XS.dloadN X0.here hx rfl (hb hby d6_0) rfl ?_
    show GO p e below s₁ (mkF m 1 (la4 a1 d2) [(.double d2)]) _
    refine XS.aloadN X0.here hx rfl (hb hby d6_1) rfl rfl ?_
    show GO p e below s₁ (mkF m 2 (la4 a1 d2) [(.ref a1), (.double d2)]) _
    refine st418 _ ?_
    show GO p e below T418 (mkF m 5 (la4 a1 d2) [(.ref t2), (.double d2)]) _
    refine XS.aloadN X418.here hx rfl (hb hby d6_5) rfl rfl ?_
    show GO p e below T418 (mkF m 6 (la4 a1 d2) [(.ref a1), (.ref t2), (.double d2)]) _
    refine st419 _ ?_
    show GO p e below T419 (mkF m 9 (la4 a1 d2) [(.int 2), (.ref t2), (.double d2)]) _
    refine X419.daload hx (j := (2 : Int32)) (v := (.double x1)) (by rw [e419]; exact Ar420.1) (State.isArrayOf_alike hZ.alike Ar420.2.1) Ar420.2.2 hin420 hat420 (g := (mkF m 9 (la4 a1 d2) [(.int 2), (.ref t2), (.double d2)])) rfl rfl (hb hby d6_9) _ ?_
    show GO p e below T419 (mkF m 10 (la4 a1 d2) [(.double x1), (.double d2)]) _
    refine XS.dcmpS X419.here hx rfl (hb hby d6_10) rfl rfl ?_
    show GO p e below T419 (mkF m 11 (la4 a1 d2) [(.int (cmpValue (FP.dcmp d2 x1) .l))]) _
    refine XS.ifYes X419.here hx rfl (pc0 := 11) (pc' := 45) rfl (hb hby d6_11) rfl ((if0 _ _).trans (tlt (hcmp : (cmpValue (FP.dcmp d2 x1) .l) < (0 : Int32))).1) (by decide) (by decide) ?_
    show GO p e below T419 (mkF m 45 (la4 a1 d2) []) _
    refine XS.aloadN X419.here hx rfl (hb hby d6_45) rfl rfl ?_
    show GO p e below T419 (mkF m 46 (la4 a1 d2) [(.ref a1)]) _
    refine st421 _ ?_
    show GO p e below T421 (mkF m 49 (la4 a1 d2) [(.ref t2)]) _
    refine XS.aloadN X421.here hx rfl (hb hby d6_49) rfl rfl ?_
    show GO p e below T421 (mkF m 50 (la4 a1 d2) [(.ref a1), (.ref t2)]) _
    refine st422 _ ?_
    show GO p e below T422 (mkF m 53 (la4 a1 d2) [(.int 2), (.ref t2)]) _
    refine Jvm.Free.XT.dup2 X422.here hx rfl (hb hby d6_53) rfl rfl rfl ?_
    show GO p e below T422 (mkF m 54 (la4 a1 d2) [(.int 2), (.ref t2), (.int 2), (.ref t2)]) _
    refine X422.daload hx (j := (2 : Int32)) (v := (.double x1)) (by rw [e422]; exact Ar423.1) (State.isArrayOf_alike hZ.alike Ar423.2.1) Ar423.2.2 hin423 hat423 (g := (mkF m 54 (la4 a1 d2) [(.int 2), (.ref t2), (.int 2), (.ref t2)])) rfl rfl (hb hby d6_54) _ ?_
    show GO p e below T422 (mkF m 55 (la4 a1 d2) [(.double x1), (.int 2), (.ref t2)]) _
    refine XS.dloadN X422.here hx rfl (hb hby d6_55) rfl ?_
    show GO p e below T422 (mkF m 56 (la4 a1 d2) [(.double d2), (.double x1), (.int 2), (.ref t2)]) _
    refine XS.dsubS X422.here hx rfl (hb hby d6_56) rfl hn2 rfl ?_
    show GO p e below T422 (mkF m 57 (la4 a1 d2) [(.double (FP.dsub x1 d2)), (.int 2), (.ref t2)]) _
    refine st425 _ ?_
    show GO p e below T425 (mkF m 58 (la4 a1 d2) []) _
    refine XS.aloadN X425.here hx rfl (hb hby d6_58) rfl rfl ?_
    show GO p e below T425 (mkF m 59 (la4 a1 d2) [(.ref a1)]) _
    refine XS.aloadN X425.here hx rfl (hb hby d6_59) rfl rfl ?_
    show GO p e below T425 (mkF m 60 (la4 a1 d2) [(.ref a1), (.ref a1)]) _
    refine st427 _ ?_
    show GO p e below T427 (mkF m 63 (la4 a1 d2) [(.int z1), (.ref a1)]) _
    refine XS.ifYes X427.here hx rfl (pc0 := 63) (pc' := 70) rfl (hb hby d6_63) rfl ((if0 _ _).trans (feq (hz1 : ¬ (z1 = (0 : Int32)))).2) (by decide) (by decide) ?_
    show GO p e below T427 (mkF m 70 (la4 a1 d2) [(.ref a1)]) _
    refine XS.aloadN X427.here hx rfl (hb hby d6_70) rfl rfl ?_
    show GO p e below T427 (mkF m 71 (la4 a1 d2) [(.ref a1), (.ref a1)]) _
    refine st429 _ ?_
    show GO p e below T429 (mkF m 74 (la4 a1 d2) [(.double c1), (.ref a1)]) _
    refine XS.dloadN X429.here hx rfl (hb hby d6_74) rfl ?_
    show GO p e below T429 (mkF m 75 (la4 a1 d2) [(.double d2), (.double c1), (.ref a1)]) _
    refine XS.dsubS X429.here hx rfl (hb hby d6_75) rfl hn rfl ?_
    show GO p e below T429 (mkF m 76 (la4 a1 d2) [(.double (FP.dsub c1 d2)), (.ref a1)]) _
    refine st431 _ ?_
    show GO p e below T431 (mkF m 79 (la4 a1 d2) []) _
    exact X431.returnOut hx Bd.returns (hb hby d6_79) hr
  · show Qrm_takep2 Z a1 d2 z1 c1 x1 t0 k0 vA t1 k1 vL t2 k2 vD t3 k3 vR h0 n0 _ T431.heap _
    rw [e431]
    exact ⟨rfl, N431, (((Keep.refl h0 [a1, t0, t1, t2, t3]).wr W425 (Or.inl (List.mem_of_getElem? (i := 3) rfl))).wr W431 (Or.inl (List.mem_of_getElem? (i := 0) rfl))), f433, f434, f435, f432, f436, f437, f438, f439, f440, f441, f442, f443⟩
def Qrm_takep3 (Z : State) (a1 : Addr) (d2 : UInt64) (z1 : Int32) (c1 : UInt64) (x1 : UInt64) (t0 : Addr) (k0 : ClassId) (vA : List Value) (t1 : Addr) (k1 : ClassId) (vL : List Value) (t2 : Addr) (k2 : ClassId) (vD : List Value) (t3 : Addr) (k3 : ClassId) (vR : List Value) (h0 : Heap) (n0 : Nat) (v : Option Value) (h : Heap) (L : List Loc) : Prop := v = none ∧ Fr n0 L ∧ Keep h0 h [a1, t0, t1, t2, t3] ∧ Exa Z h a1 kS0 ∧ Fld Z h a1 kS0 "head" "I" (.int 3) ∧ Fld Z h a1 kS0 "size" "I" (.int z1) ∧ Fld Z h a1 kS0 "content" "D" (.double (if z1 = (0 : Int32) then (0 : UInt64) else FP.dsub c1 d2)) ∧ Fld Z h a1 kS0 "agents" "[I" (.ref t0) ∧ Arv Z h t0 k0 .int (8 : Int32) vA (.int 0) ∧ Fld Z h a1 kS0 "legs" "[I" (.ref t1) ∧ Arv Z h t1 k1 .int (8 : Int32) vL (.int 0) ∧ Fld Z h a1 kS0 "amounts" "[D" (.ref t2) ∧ Arv Z h t2 k2 .double (8 : Int32) (vD.set 3 (.double (FP.dsub x1 d2))) (.double (0 : UInt64)) ∧ Fld Z h a1 kS0 "rears" "[Z" (.ref t3) ∧ Arv Z h t3 k3 .boolean (8 : Int32) vR (.int 0)
theorem ef_rm_takep3 (m : MethodId) (x0 : Addr) (x1 : UInt64) : entryFrame m #[(.ref x0), (.double x1)] 3 = mkF m 0 (la4 x0 x1) [] := by first | rfl | (simp [entryFrame, mkF, argsToLocals, Value.category]; done)
set_option maxRecDepth 65536 in
set_option maxHeartbeats 40000000 in
theorem rm_takep3 (l : Launch) (Z : State) (a0 : Array Value) (hw : ∀ d ∈ tables_1, d.before a0 Z = true) (ws : List Jvm.Cond) (a1 : Addr) (d2 : UInt64) (z1 : Int32) (c1 : UInt64) (x1 : UInt64) (t0 : Addr) (k0 : ClassId) (vA : List Value) (t1 : Addr) (k1 : ClassId) (vL : List Value) (t2 : Addr) (k2 : ClassId) (vD : List Value) (t3 : Addr) (k3 : ClassId) (vR : List Value) (h0 : Heap) (n0 : Nat) (Z0 : n0 ≤ h0.size) (E1 : Exa Z h0 a1 kS0) (Fh : Fld Z h0 a1 kS0 "head" "I" (.int 3)) (Fs : Fld Z h0 a1 kS0 "size" "I" (.int z1)) (Fc : Fld Z h0 a1 kS0 "content" "D" (.double c1)) (F0 : Fld Z h0 a1 kS0 "agents" "[I" (.ref t0)) (V0 : Arv Z h0 t0 k0 .int (8 : Int32) vA (.int 0)) (F1 : Fld Z h0 a1 kS0 "legs" "[I" (.ref t1)) (V1 : Arv Z h0 t1 k1 .int (8 : Int32) vL (.int 0)) (F2 : Fld Z h0 a1 kS0 "amounts" "[D" (.ref t2)) (V2 : Arv Z h0 t2 k2 .double (8 : Int32) vD (.double (0 : UInt64))) (F3 : Fld Z h0 a1 kS0 "rears" "[Z" (.ref t3)) (V3 : Arv Z h0 t3 k3 .boolean (8 : Int32) vR (.int 0)) (len0 : vA.length = 8) (len1 : vL.length = 8) (len2 : vD.length = 8) (len3 : vR.length = 8) (o1 : LT.lt (α := Nat) a1 t0) (o2 : LT.lt (α := Nat) t0 t1) (o3 : LT.lt (α := Nat) t1 t2) (o4 : LT.lt (α := Nat) t2 t3) (g1 : n0 ≤ a1) (hx1 : vD.getD ((3 : Int32)).toNatClampNeg (.double (0 : UInt64)) = (.double x1)) (hcmp : (cmpValue (FP.dcmp d2 x1) .l) < (0 : Int32)) (hn : Jvm.Free.Fl.NoNaN64 (FP.dsub c1 d2)) (hn2 : Jvm.Free.Fl.NoNaN64 (FP.dsub x1 d2)) (hz1 : ¬ (z1 = (0 : Int32))) :
    MetFree l (⟨kS0, "takeFromHead", "(D)V"⟩ : MethodName) (head1 (Jvm.Cond.code (⟨kS0, "takeFromHead", "(D)V"⟩ : MethodName) prog_14_method_12_code 3 none :: ws) ({ frames := 0, cells := 0, slots := 0, locals := 0 } : Room)) (fun a U => a = #[(.ref a1), (.double d2)] ∧ Z.Warmed39 U.vm ∧ U.heap = h0) (fun _ _ _ _ _ => True) (fun _ U o U' => ∃ v L, o = .returned v ∧ Qrm_takep3 Z a1 d2 z1 c1 x1 t0 k0 vA t1 k1 vL t2 k2 vD t3 k3 vR h0 n0 v U'.heap L ∧ FrameEnd U o U' L ({ frames := 0, cells := 0, slots := 0, locals := 0 } : Room).cells ({ frames := 0, cells := 0, slots := 0, locals := 0 } : Room).slots) := by
  refine MetFree.of_bodySF (plainFor_of_name pn_0) hisR ?_
  intro p e s m args below meth c s₁ Bd hml0 hP hK
  obtain ⟨rfl, hZ, hh⟩ := hP
  have hx := Bd.exec
  have hby := Bd.bytes
  have hml : c.maxLocals = 3 := hml0
  have hown : s.vm.findClass kS0 = some m.cls := findClass_of_methodNamed Bd.named
  have hnm := (name_of_methodNamed Bd.named Bd.method).1
  have X0 : Stand p l e ({ frames := 0, cells := 0, slots := 0, locals := 0 } : Room) s m #[(.ref a1), (.double d2)] below meth c s₁ [] 0 0 := Stand.of_body Bd
  have e0 : s₁.heap = h0 := by rw [← hh, Bd.state]; rfl
  have N0 := Fr.nil n0
  have pre0 : ∀ t, Steps p.tables e below (s₁.setTop (mkF m 0 (la4 a1 d2) [])) t → Steps p.tables e below (s₁.setTop (entryFrame m #[(.ref a1), (.double d2)] 3)) t := fun t k => castTop (ef_rm_takep3 m a1 d2) k
  have lt_E1 := ltA E1.lt
  have lt_Fh := ltA Fh.lt
  have lt_Fs := ltA Fs.lt
  have lt_Fc := ltA Fc.lt
  have lt_F0 := ltA F0.lt
  have lt_V0 := ltA V0.lt
  have lt_F1 := ltA F1.lt
  have lt_V1 := ltA V1.lt
  have lt_F2 := ltA F2.lt
  have lt_V2 := ltA V2.lt
  have lt_F3 := ltA F3.lt
  have lt_V3 := ltA V3.lt
  obtain ⟨T444, X444, e444, st444⟩ := getF X0 hx hZ hown (host := "") (Or.inl (wd hw 20 rfl)) Via.refl e0 F2 (g := (mkF m 2 (la4 a1 d2) [(.ref a1), (.double d2)])) rfl rfl (hb hby d6_2)
  obtain ⟨T445, X445, e445, st445⟩ := getF X444 hx hZ hown (host := "") (Or.inl (wd hw 37 rfl)) Via.refl e444 Fh (g := (mkF m 6 (la4 a1 d2) [(.ref a1), (.ref t2), (.double d2)])) rfl rfl (hb hby d6_6)
  obtain ⟨cl446, Ar446, q446, S446, M446, H446, G446⟩ := id V2
  have hin446 : ¬ ((3 : Int32) < 0 ∨ cl446.slots.size ≤ ((3 : Int32)).toNatClampNeg) := inb_of S446 ⟨by decide, by decide⟩
  have hat446 : cl446.slots[((3 : Int32)).toNatClampNeg]? = some (.double x1) := Has.at H446 hin446 hx1
  obtain ⟨T447, X447, e447, st447⟩ := getF X445 hx hZ hown (host := "") (Or.inl (wd hw 20 rfl)) Via.refl e445 F2 (g := (mkF m 46 (la4 a1 d2) [(.ref a1)])) rfl rfl (hb hby d6_46)
  obtain ⟨T448, X448, e448, st448⟩ := getF X447 hx hZ hown (host := "") (Or.inl (wd hw 37 rfl)) Via.refl e447 Fh (g := (mkF m 50 (la4 a1 d2) [(.ref a1), (.ref t2)])) rfl rfl (hb hby d6_50)
  obtain ⟨cl449, Ar449, q449, S449, M449, H449, G449⟩ := id V2
  have hin449 : ¬ ((3 : Int32) < 0 ∨ cl449.slots.size ≤ ((3 : Int32)).toNatClampNeg) := inb_of S449 ⟨by decide, by decide⟩
  have hat449 : cl449.slots[((3 : Int32)).toNatClampNeg]? = some (.double x1) := Has.at H449 hin449 hx1
  obtain ⟨cl450, Ar450, q450, S450, M450, H450, G450⟩ := id V2
  have hin450 : ¬ ((3 : Int32) < 0 ∨ cl450.slots.size ≤ ((3 : Int32)).toNatClampNeg) := inb_of S450 ⟨by decide, by decide⟩
  obtain ⟨T451, h451, X451, e451, W451, st451⟩ := stD X448 hx hZ e448 Ar450 (j := (3 : Int32)) hin450 (g := (mkF m 57 (la4 a1 d2) [(.double (FP.dsub x1 d2)), (.int 3), (.ref t2)])) rfl rfl (hb hby d6_57)
  have N451 := Fr.snoc X451 N0 (by omega : n0 ≤ t2)
  have sz451 : h0.size ≤ h451.size := Nat.le_of_eq W451.size.symm
  have V451 : Arv Z h451 t2 k2 .double (8 : Int32) (vD.set 3 (.double (FP.dsub x1 d2))) (.double (0 : UInt64)) := Arv.set Ar450 q450 S450 M450 H450 G450 rfl W451 3 rfl (by omega)
  have f452 : Fld Z h451 a1 kS0 "size" "I" (.int z1) := (Fs.other W451 (Or.inl (neN (by omega))))
  obtain ⟨T453, X453, e453, st453⟩ := getF X451 hx hZ hown (host := "") (Or.inl (wd hw 30 rfl)) Via.refl e451 f452 (g := (mkF m 60 (la4 a1 d2) [(.ref a1), (.ref a1)])) rfl rfl (hb hby d6_60)
  have f454 : Fld Z h451 a1 kS0 "content" "D" (.double c1) := (Fc.other W451 (Or.inl (neN (by omega))))
  obtain ⟨T455, X455, e455, st455⟩ := getF X453 hx hZ hown (host := "") (Or.inl (wd hw 39 rfl)) Via.refl e453 f454 (g := (mkF m 71 (la4 a1 d2) [(.ref a1), (.ref a1)])) rfl rfl (hb hby d6_71)
  have f456 : Exa Z h451 a1 kS0 := (E1.wr W451)
  obtain ⟨T457, h457, X457, e457, W457, st457⟩ := putF X455 hx hZ hown (host := "") (Or.inl (wd hw 39 rfl)) Via.refl e455 f454 f456 (Or.inl (wd hw 40 rfl)) (wd hw 6 rfl) (ty := .double) (by decide) rfl rfl (g := (mkF m 76 (la4 a1 d2) [(.double (FP.dsub c1 d2)), (.ref a1)])) rfl rfl (hb hby d6_76)
  have N457 := Fr.snoc X457 N451 (by omega : n0 ≤ a1)
  have sz457 : h451.size ≤ h457.size := Nat.le_of_eq W457.size.symm
  have f457 : Fld Z h457 a1 kS0 "content" "D" (.double (FP.dsub c1 d2)) := f454.same W457
  have f458 : Fld Z h457 a1 kS0 "content" "D" (.double (if z1 = (0 : Int32) then (0 : UInt64) else FP.dsub c1 d2)) := by
    have q := f457
    rw [if_neg hz1]
    exact q
  have f459 : Exa Z h457 a1 kS0 := (f456.wr W457)
  have f460 : Fld Z h457 a1 kS0 "head" "I" (.int 3) := ((Fh.other W451 (Or.inl (neN (by omega)))).other W457 (Or.inr (slot_ne (Or.inl (wd hw 38 rfl)) (Or.inl (wd hw 40 rfl)) (by decide) (t := .int) (t' := .double) (by decide) (by decide))))
  have f461 : Fld Z h457 a1 kS0 "size" "I" (.int z1) := (f452.other W457 (Or.inr (slot_ne (Or.inl (wd hw 31 rfl)) (Or.inl (wd hw 40 rfl)) (by decide) (t := .int) (t' := .double) (by decide) (by decide))))
  have f462 : Fld Z h457 a1 kS0 "agents" "[I" (.ref t0) := ((F0.other W451 (Or.inl (neN (by omega)))).other W457 (Or.inr (slot_ne (Or.inl (wd hw 16 rfl)) (Or.inl (wd hw 40 rfl)) (by decide) (t := (.array .int)) (t' := .double) (by decide) (by decide))))
  have f463 : Arv Z h457 t0 k0 .int (8 : Int32) vA (.int 0) := ((V0.other W451 (neN (by omega))).other W457 (neN (by omega)))
  have f464 : Fld Z h457 a1 kS0 "legs" "[I" (.ref t1) := ((F1.other W451 (Or.inl (neN (by omega)))).other W457 (Or.inr (slot_ne (Or.inl (wd hw 18 rfl)) (Or.inl (wd hw 40 rfl)) (by decide) (t := (.array .int)) (t' := .double) (by decide) (by decide))))
  have f465 : Arv Z h457 t1 k1 .int (8 : Int32) vL (.int 0) := ((V1.other W451 (neN (by omega))).other W457 (neN (by omega)))
  have f466 : Fld Z h457 a1 kS0 "amounts" "[D" (.ref t2) := ((F2.other W451 (Or.inl (neN (by omega)))).other W457 (Or.inr (slot_ne (Or.inl (wd hw 21 rfl)) (Or.inl (wd hw 40 rfl)) (by decide) (t := (.array .double)) (t' := .double) (by decide) (by decide))))
  have f467 : Arv Z h457 t2 k2 .double (8 : Int32) (vD.set 3 (.double (FP.dsub x1 d2))) (.double (0 : UInt64)) := (V451.other W457 (neN (by omega)))
  have f468 : Fld Z h457 a1 kS0 "rears" "[Z" (.ref t3) := ((F3.other W451 (Or.inl (neN (by omega)))).other W457 (Or.inr (slot_ne (Or.inl (wd hw 24 rfl)) (Or.inl (wd hw 40 rfl)) (by decide) (t := (.array .boolean)) (t' := .double) (by decide) (by decide))))
  have f469 : Arv Z h457 t3 k3 .boolean (8 : Int32) vR (.int 0) := ((V3.other W451 (neN (by omega))).other W457 (neN (by omega)))
  obtain ⟨fs, hr, hrun, hended, hW, hsame⟩ := X457.leave (v := none) (fun _ => rfl)
  refine ⟨_, _, pre0 _ ?_, hrun, hended, _, _, rfl, ?_, ⟨_, rfl⟩, hW, hsame.mono (by decide) (by decide)⟩
  · show GO p e below s₁ (mkF m 0 (la4 a1 d2) []) _
    refine XS.dloadN X0.here hx rfl (hb hby d6_0) rfl ?_
    show GO p e below s₁ (mkF m 1 (la4 a1 d2) [(.double d2)]) _
    refine XS.aloadN X0.here hx rfl (hb hby d6_1) rfl rfl ?_
    show GO p e below s₁ (mkF m 2 (la4 a1 d2) [(.ref a1), (.double d2)]) _
    refine st444 _ ?_
    show GO p e below T444 (mkF m 5 (la4 a1 d2) [(.ref t2), (.double d2)]) _
    refine XS.aloadN X444.here hx rfl (hb hby d6_5) rfl rfl ?_
    show GO p e below T444 (mkF m 6 (la4 a1 d2) [(.ref a1), (.ref t2), (.double d2)]) _
    refine st445 _ ?_
    show GO p e below T445 (mkF m 9 (la4 a1 d2) [(.int 3), (.ref t2), (.double d2)]) _
    refine X445.daload hx (j := (3 : Int32)) (v := (.double x1)) (by rw [e445]; exact Ar446.1) (State.isArrayOf_alike hZ.alike Ar446.2.1) Ar446.2.2 hin446 hat446 (g := (mkF m 9 (la4 a1 d2) [(.int 3), (.ref t2), (.double d2)])) rfl rfl (hb hby d6_9) _ ?_
    show GO p e below T445 (mkF m 10 (la4 a1 d2) [(.double x1), (.double d2)]) _
    refine XS.dcmpS X445.here hx rfl (hb hby d6_10) rfl rfl ?_
    show GO p e below T445 (mkF m 11 (la4 a1 d2) [(.int (cmpValue (FP.dcmp d2 x1) .l))]) _
    refine XS.ifYes X445.here hx rfl (pc0 := 11) (pc' := 45) rfl (hb hby d6_11) rfl ((if0 _ _).trans (tlt (hcmp : (cmpValue (FP.dcmp d2 x1) .l) < (0 : Int32))).1) (by decide) (by decide) ?_
    show GO p e below T445 (mkF m 45 (la4 a1 d2) []) _
    refine XS.aloadN X445.here hx rfl (hb hby d6_45) rfl rfl ?_
    show GO p e below T445 (mkF m 46 (la4 a1 d2) [(.ref a1)]) _
    refine st447 _ ?_
    show GO p e below T447 (mkF m 49 (la4 a1 d2) [(.ref t2)]) _
    refine XS.aloadN X447.here hx rfl (hb hby d6_49) rfl rfl ?_
    show GO p e below T447 (mkF m 50 (la4 a1 d2) [(.ref a1), (.ref t2)]) _
    refine st448 _ ?_
    show GO p e below T448 (mkF m 53 (la4 a1 d2) [(.int 3), (.ref t2)]) _
    refine Jvm.Free.XT.dup2 X448.here hx rfl (hb hby d6_53) rfl rfl rfl ?_
    show GO p e below T448 (mkF m 54 (la4 a1 d2) [(.int 3), (.ref t2), (.int 3), (.ref t2)]) _
    refine X448.daload hx (j := (3 : Int32)) (v := (.double x1)) (by rw [e448]; exact Ar449.1) (State.isArrayOf_alike hZ.alike Ar449.2.1) Ar449.2.2 hin449 hat449 (g := (mkF m 54 (la4 a1 d2) [(.int 3), (.ref t2), (.int 3), (.ref t2)])) rfl rfl (hb hby d6_54) _ ?_
    show GO p e below T448 (mkF m 55 (la4 a1 d2) [(.double x1), (.int 3), (.ref t2)]) _
    refine XS.dloadN X448.here hx rfl (hb hby d6_55) rfl ?_
    show GO p e below T448 (mkF m 56 (la4 a1 d2) [(.double d2), (.double x1), (.int 3), (.ref t2)]) _
    refine XS.dsubS X448.here hx rfl (hb hby d6_56) rfl hn2 rfl ?_
    show GO p e below T448 (mkF m 57 (la4 a1 d2) [(.double (FP.dsub x1 d2)), (.int 3), (.ref t2)]) _
    refine st451 _ ?_
    show GO p e below T451 (mkF m 58 (la4 a1 d2) []) _
    refine XS.aloadN X451.here hx rfl (hb hby d6_58) rfl rfl ?_
    show GO p e below T451 (mkF m 59 (la4 a1 d2) [(.ref a1)]) _
    refine XS.aloadN X451.here hx rfl (hb hby d6_59) rfl rfl ?_
    show GO p e below T451 (mkF m 60 (la4 a1 d2) [(.ref a1), (.ref a1)]) _
    refine st453 _ ?_
    show GO p e below T453 (mkF m 63 (la4 a1 d2) [(.int z1), (.ref a1)]) _
    refine XS.ifYes X453.here hx rfl (pc0 := 63) (pc' := 70) rfl (hb hby d6_63) rfl ((if0 _ _).trans (feq (hz1 : ¬ (z1 = (0 : Int32)))).2) (by decide) (by decide) ?_
    show GO p e below T453 (mkF m 70 (la4 a1 d2) [(.ref a1)]) _
    refine XS.aloadN X453.here hx rfl (hb hby d6_70) rfl rfl ?_
    show GO p e below T453 (mkF m 71 (la4 a1 d2) [(.ref a1), (.ref a1)]) _
    refine st455 _ ?_
    show GO p e below T455 (mkF m 74 (la4 a1 d2) [(.double c1), (.ref a1)]) _
    refine XS.dloadN X455.here hx rfl (hb hby d6_74) rfl ?_
    show GO p e below T455 (mkF m 75 (la4 a1 d2) [(.double d2), (.double c1), (.ref a1)]) _
    refine XS.dsubS X455.here hx rfl (hb hby d6_75) rfl hn rfl ?_
    show GO p e below T455 (mkF m 76 (la4 a1 d2) [(.double (FP.dsub c1 d2)), (.ref a1)]) _
    refine st457 _ ?_
    show GO p e below T457 (mkF m 79 (la4 a1 d2) []) _
    exact X457.returnOut hx Bd.returns (hb hby d6_79) hr
  · show Qrm_takep3 Z a1 d2 z1 c1 x1 t0 k0 vA t1 k1 vL t2 k2 vD t3 k3 vR h0 n0 _ T457.heap _
    rw [e457]
    exact ⟨rfl, N457, (((Keep.refl h0 [a1, t0, t1, t2, t3]).wr W451 (Or.inl (List.mem_of_getElem? (i := 3) rfl))).wr W457 (Or.inl (List.mem_of_getElem? (i := 0) rfl))), f459, f460, f461, f458, f462, f463, f464, f465, f466, f467, f468, f469⟩
def Qrm_min (Z : State) (p0 : Int32) (p1 : Int32) (h0 : Heap) (n0 : Nat) (v : Option Value) (h : Heap) (L : List Loc) : Prop := v = some (.int (own_min p0 p1)) ∧ Fr n0 L ∧ h = h0
theorem ef_rm_min (m : MethodId) (x0 : Int32) (x1 : Int32) : entryFrame m #[(.int x0), (.int x1)] 2 = mkF m 0 #[.val (.int x0), .val (.int x1)] [] := by first | rfl | (simp [entryFrame, mkF, argsToLocals, Value.category]; done)
set_option maxRecDepth 65536 in
set_option maxHeartbeats 40000000 in
theorem rm_min (l : Launch) (Z : State) (a0 : Array Value) (hw : ∀ d ∈ tables_1, d.before a0 Z = true) (ws : List Jvm.Cond) (p0 : Int32) (p1 : Int32) (h0 : Heap) (n0 : Nat) (Z0 : n0 ≤ h0.size) :
    MetFree l (⟨"java/lang/Math", "min", "(II)I"⟩ : MethodName) (head1 (Jvm.Cond.code (⟨"java/lang/Math", "min", "(II)I"⟩ : MethodName) jdk_29_method_69_code 2 (some .int) :: ws) ({ frames := 0, cells := 0, slots := 0, locals := 0 } : Room)) (fun a U => a = #[(.int p0), (.int p1)] ∧ Z.Warmed39 U.vm ∧ U.heap = h0) (fun _ _ _ _ _ => True) (fun _ U o U' => ∃ v L, o = .returned v ∧ Qrm_min Z p0 p1 h0 n0 v U'.heap L ∧ FrameEnd U o U' L ({ frames := 0, cells := 0, slots := 0, locals := 0 } : Room).cells ({ frames := 0, cells := 0, slots := 0, locals := 0 } : Room).slots) := by
  refine MetFree.of_bodySF (Jvm.Free.JP.mathPlain rfl (by decide +kernel)) hisR ?_
  intro p e s m args below meth c s₁ Bd hml0 hP hK
  obtain ⟨rfl, hZ, hh⟩ := hP
  have hx := Bd.exec
  have hby := Bd.bytes
  have hml : c.maxLocals = 2 := hml0
  have hown : s.vm.findClass "java/lang/Math" = some m.cls := findClass_of_methodNamed Bd.named
  have hnm := (name_of_methodNamed Bd.named Bd.method).1
  have X0 : Stand p l e ({ frames := 0, cells := 0, slots := 0, locals := 0 } : Room) s m #[(.int p0), (.int p1)] below meth c s₁ [] 0 0 := Stand.of_body Bd
  have e0 : s₁.heap = h0 := by rw [← hh, Bd.state]; rfl
  have N0 := Fr.nil n0
  have pre0 : ∀ t, Steps p.tables e below (s₁.setTop (mkF m 0 #[.val (.int p0), .val (.int p1)] [])) t → Steps p.tables e below (s₁.setTop (entryFrame m #[(.int p0), (.int p1)] 2)) t := fun t k => castTop (ef_rm_min m p0 p1) k
  have pre470 : ∀ t, Steps p.tables e below (s₁.setTop (mkF m 2 #[.val (.int p0), .val (.int p1)] [(.int p1), (.int p0)])) t → Steps p.tables e below (s₁.setTop (entryFrame m #[(.int p0), (.int p1)] 2)) t := by
    intro t kt
    refine pre0 t ?_
    show GO p e below s₁ (mkF m 0 #[.val (.int p0), .val (.int p1)] []) _
    refine XS.iloadN X0.here hx rfl (hb hby d1_0) rfl ?_
    show GO p e below s₁ (mkF m 1 #[.val (.int p0), .val (.int p1)] [(.int p0)]) _
    refine XS.iloadN X0.here hx rfl (hb hby d1_1) rfl ?_
    exact kt
  by_cases hb471 : p1 < p0
  · obtain ⟨fs, hr, hrun, hended, hW, hsame⟩ := X0.leave (v := some (.int p1)) (fun h => by rw [Bd.returns] at h; cases h)
    refine ⟨_, _, pre470 _ ?_, hrun, hended, _, _, rfl, ?_, ⟨_, rfl⟩, hW, hsame.mono (by decide) (by decide)⟩
    · show GO p e below s₁ (mkF m 2 #[.val (.int p0), .val (.int p1)] [(.int p1), (.int p0)]) _
      refine XS.icmpYes X0.here hx rfl (pc0 := 2) (pc' := 9) rfl (hb hby d1_2) rfl (tlt (hb471 : p1 < p0)).2.2.1 (by decide) (by decide) ?_
      show GO p e below s₁ (mkF m 9 #[.val (.int p0), .val (.int p1)] []) _
      refine XS.iloadN X0.here hx rfl (hb hby d1_9) rfl ?_
      show GO p e below s₁ (mkF m 10 #[.val (.int p0), .val (.int p1)] [(.int p1)]) _
      exact retI X0 hx Bd.returns (hb hby d1_10) hr
    · show Qrm_min Z p0 p1 h0 n0 _ s₁.heap _
      rw [e0]
      exact ⟨(by rw [own_min, if_pos hb471]), N0, rfl⟩
  · obtain ⟨fs, hr, hrun, hended, hW, hsame⟩ := X0.leave (v := some (.int p0)) (fun h => by rw [Bd.returns] at h; cases h)
    refine ⟨_, _, pre470 _ ?_, hrun, hended, _, _, rfl, ?_, ⟨_, rfl⟩, hW, hsame.mono (by decide) (by decide)⟩
    · show GO p e below s₁ (mkF m 2 #[.val (.int p0), .val (.int p1)] [(.int p1), (.int p0)]) _
      refine XS.icmpNo X0.here hx rfl (hb hby d1_2) rfl (flt (hb471 : ¬ (p1 < p0))).2.2.1 ?_
      show GO p e below s₁ (mkF m 5 #[.val (.int p0), .val (.int p1)] []) _
      refine XS.iloadN X0.here hx rfl (hb hby d1_5) rfl ?_
      show GO p e below s₁ (mkF m 6 #[.val (.int p0), .val (.int p1)] [(.int p0)]) _
      refine XS.goto X0.here hx rfl (pc0 := 6) (pc' := 10) rfl (hb hby d1_6) (by decide) (by decide) ?_
      show GO p e below s₁ (mkF m 10 #[.val (.int p0), .val (.int p1)] [(.int p0)]) _
      exact retI X0 hx Bd.returns (hb hby d1_10) hr
    · show Qrm_min Z p0 p1 h0 n0 _ s₁.heap _
      rw [e0]
      exact ⟨(by rw [own_min, if_neg hb471]), N0, rfl⟩
def Qrm_hold0_0 (Z : State) (a1 : Addr) (t3 : Addr) (k3 : ClassId) (vR : List Value) (h0 : Heap) (n0 : Nat) (v : Option Value) (h : Heap) (L : List Loc) : Prop := v = some (.int (own_any [])) ∧ Fr n0 L ∧ h = h0
theorem ef_rm_hold0_0 (m : MethodId) (x0 : Addr) : entryFrame m #[(.ref x0)] 2 = mkF m 0 #[.val (.ref x0), .unset] [] := by first | rfl | (simp [entryFrame, mkF, argsToLocals, Value.category]; done)
set_option maxRecDepth 65536 in
set_option maxHeartbeats 40000000 in
theorem rm_hold0_0 (l : Launch) (Z : State) (a0 : Array Value) (hw : ∀ d ∈ tables_1, d.before a0 Z = true) (ws : List Jvm.Cond) (a1 : Addr) (t3 : Addr) (k3 : ClassId) (vR : List Value) (h0 : Heap) (n0 : Nat) (Z0 : n0 ≤ h0.size) (Fh : Fld Z h0 a1 kS0 "head" "I" (.int 0)) (Fs : Fld Z h0 a1 kS0 "size" "I" (.int 0)) (F3 : Fld Z h0 a1 kS0 "rears" "[Z" (.ref t3)) (V3 : Arv Z h0 t3 k3 .boolean (8 : Int32) vR (.int 0)) :
    MetFree l (⟨kS0, "holdsRear", "()Z"⟩ : MethodName) (head1 (Jvm.Cond.code (⟨kS0, "holdsRear", "()Z"⟩ : MethodName) prog_14_method_10_code 2 (some .boolean) :: ws) ({ frames := 0, cells := 0, slots := 0, locals := 0 } : Room)) (fun a U => a = #[(.ref a1)] ∧ Z.Warmed39 U.vm ∧ U.heap = h0) (fun _ _ _ _ _ => True) (fun _ U o U' => ∃ v L, o = .returned v ∧ Qrm_hold0_0 Z a1 t3 k3 vR h0 n0 v U'.heap L ∧ FrameEnd U o U' L ({ frames := 0, cells := 0, slots := 0, locals := 0 } : Room).cells ({ frames := 0, cells := 0, slots := 0, locals := 0 } : Room).slots) := by
  refine MetFree.of_bodySF (plainFor_of_name pn_0) hisR ?_
  intro p e s m args below meth c s₁ Bd hml0 hP hK
  obtain ⟨rfl, hZ, hh⟩ := hP
  have hx := Bd.exec
  have hby := Bd.bytes
  have hml : c.maxLocals = 2 := hml0
  have hown : s.vm.findClass kS0 = some m.cls := findClass_of_methodNamed Bd.named
  have hnm := (name_of_methodNamed Bd.named Bd.method).1
  have X0 : Stand p l e ({ frames := 0, cells := 0, slots := 0, locals := 0 } : Room) s m #[(.ref a1)] below meth c s₁ [] 0 0 := Stand.of_body Bd
  have e0 : s₁.heap = h0 := by rw [← hh, Bd.state]; rfl
  have N0 := Fr.nil n0
  have pre0 : ∀ t, Steps p.tables e below (s₁.setTop (mkF m 0 #[.val (.ref a1), .unset] [])) t → Steps p.tables e below (s₁.setTop (entryFrame m #[(.ref a1)] 2)) t := fun t k => castTop (ef_rm_hold0_0 m a1) k
  have lt_Fh := ltA Fh.lt
  have lt_Fs := ltA Fs.lt
  have lt_F3 := ltA F3.lt
  have lt_V3 := ltA V3.lt
  obtain ⟨T472, X472, e472, st472⟩ := getF X0 hx hZ hown (host := "") (Or.inl (wd hw 30 rfl)) Via.refl e0 Fs (g := (mkF m 4 #[.val (.ref a1), .val (.int 0)] [(.ref a1), (.int 0)])) rfl rfl (hb hby d4_4)
  obtain ⟨fs, hr, hrun, hended, hW, hsame⟩ := X472.leave (v := some (.int 0)) (fun h => by rw [Bd.returns] at h; cases h)
  refine ⟨_, _, pre0 _ ?_, hrun, hended, _, _, rfl, ?_, ⟨_, rfl⟩, hW, hsame.mono (by decide) (by decide)⟩
  · show GO p e below s₁ (mkF m 0 #[.val (.ref a1), .unset] []) _
    refine XS.iconst X0.here hx rfl (hb hby d4_0) ?_
    show GO p e below s₁ (mkF m 1 #[.val (.ref a1), .unset] [(.int 0)]) _
    refine XS.istoreN X0.here hx rfl (hb hby d4_1) rfl (l' := #[.val (.ref a1), .val (.int 0)]) rfl ?_
    show GO p e below s₁ (mkF m 2 #[.val (.ref a1), .val (.int 0)] []) _
    refine XS.iloadN X0.here hx rfl (hb hby d4_2) rfl ?_
    show GO p e below s₁ (mkF m 3 #[.val (.ref a1), .val (.int 0)] [(.int 0)]) _
    refine XS.aloadN X0.here hx rfl (hb hby d4_3) rfl rfl ?_
    show GO p e below s₁ (mkF m 4 #[.val (.ref a1), .val (.int 0)] [(.ref a1), (.int 0)]) _
    refine st472 _ ?_
    show GO p e below T472 (mkF m 7 #[.val (.ref a1), .val (.int 0)] [(.int 0), (.int 0)]) _
    refine XS.icmpYes X472.here hx rfl (pc0 := 7) (pc' := 40) rfl (hb hby d4_7) rfl (flt ((by decide) : ¬ ((0 : Int32) < (0 : Int32)))).2.1 (by decide) (by decide) ?_
    show GO p e below T472 (mkF m 40 #[.val (.ref a1), .val (.int 0)] []) _
    refine XS.iconst X472.here hx rfl (hb hby d4_40) ?_
    show GO p e below T472 (mkF m 41 #[.val (.ref a1), .val (.int 0)] [(.int 0)]) _
    exact retN X472 hx (t := .boolean) Bd.returns (by simp) (hb hby d4_41) hr
  · show Qrm_hold0_0 Z a1 t3 k3 vR h0 n0 _ T472.heap _
    rw [e472]
    exact ⟨(by simp [own_any]), N0, rfl⟩
def Qrm_hold0_1 (Z : State) (a1 : Addr) (t3 : Addr) (k3 : ClassId) (vR : List Value) (x0 : Int32) (h0 : Heap) (n0 : Nat) (v : Option Value) (h : Heap) (L : List Loc) : Prop := v = some (.int (own_any [x0])) ∧ Fr n0 L ∧ h = h0
theorem ef_rm_hold0_1 (m : MethodId) (x0 : Addr) : entryFrame m #[(.ref x0)] 2 = mkF m 0 #[.val (.ref x0), .unset] [] := by first | rfl | (simp [entryFrame, mkF, argsToLocals, Value.category]; done)
set_option maxRecDepth 65536 in
set_option maxHeartbeats 40000000 in
theorem rm_hold0_1 (l : Launch) (Z : State) (a0 : Array Value) (hw : ∀ d ∈ tables_1, d.before a0 Z = true) (ws : List Jvm.Cond) (a1 : Addr) (t3 : Addr) (k3 : ClassId) (vR : List Value) (x0 : Int32) (h0 : Heap) (n0 : Nat) (Z0 : n0 ≤ h0.size) (Fh : Fld Z h0 a1 kS0 "head" "I" (.int 0)) (Fs : Fld Z h0 a1 kS0 "size" "I" (.int 1)) (F3 : Fld Z h0 a1 kS0 "rears" "[Z" (.ref t3)) (V3 : Arv Z h0 t3 k3 .boolean (8 : Int32) vR (.int 0)) (hx0 : vR.getD ((0 : Int32)).toNatClampNeg (.int 0) = (.int x0)) :
    MetFree l (⟨kS0, "holdsRear", "()Z"⟩ : MethodName) (head1 (Jvm.Cond.code (⟨kS0, "holdsRear", "()Z"⟩ : MethodName) prog_14_method_10_code 2 (some .boolean) :: ws) ({ frames := 0, cells := 0, slots := 0, locals := 0 } : Room)) (fun a U => a = #[(.ref a1)] ∧ Z.Warmed39 U.vm ∧ U.heap = h0) (fun _ _ _ _ _ => True) (fun _ U o U' => ∃ v L, o = .returned v ∧ Qrm_hold0_1 Z a1 t3 k3 vR x0 h0 n0 v U'.heap L ∧ FrameEnd U o U' L ({ frames := 0, cells := 0, slots := 0, locals := 0 } : Room).cells ({ frames := 0, cells := 0, slots := 0, locals := 0 } : Room).slots) := by
  refine MetFree.of_bodySF (plainFor_of_name pn_0) hisR ?_
  intro p e s m args below meth c s₁ Bd hml0 hP hK
  obtain ⟨rfl, hZ, hh⟩ := hP
  have hx := Bd.exec
  have hby := Bd.bytes
  have hml : c.maxLocals = 2 := hml0
  have hown : s.vm.findClass kS0 = some m.cls := findClass_of_methodNamed Bd.named
  have hnm := (name_of_methodNamed Bd.named Bd.method).1
  have X0 : Stand p l e ({ frames := 0, cells := 0, slots := 0, locals := 0 } : Room) s m #[(.ref a1)] below meth c s₁ [] 0 0 := Stand.of_body Bd
  have e0 : s₁.heap = h0 := by rw [← hh, Bd.state]; rfl
  have N0 := Fr.nil n0
  have pre0 : ∀ t, Steps p.tables e below (s₁.setTop (mkF m 0 #[.val (.ref a1), .unset] [])) t → Steps p.tables e below (s₁.setTop (entryFrame m #[(.ref a1)] 2)) t := fun t k => castTop (ef_rm_hold0_1 m a1) k
  have lt_Fh := ltA Fh.lt
  have lt_Fs := ltA Fs.lt
  have lt_F3 := ltA F3.lt
  have lt_V3 := ltA V3.lt
  obtain ⟨T473, X473, e473, st473⟩ := getF X0 hx hZ hown (host := "") (Or.inl (wd hw 30 rfl)) Via.refl e0 Fs (g := (mkF m 4 #[.val (.ref a1), .val (.int 0)] [(.ref a1), (.int 0)])) rfl rfl (hb hby d4_4)
  obtain ⟨T474, X474, e474, st474⟩ := getF X473 hx hZ hown (host := "") (Or.inl (wd hw 23 rfl)) Via.refl e473 F3 (g := (mkF m 11 #[.val (.ref a1), .val (.int 0)] [(.ref a1)])) rfl rfl (hb hby d4_11)
  obtain ⟨T475, X475, e475, st475⟩ := getF X474 hx hZ hown (host := "") (Or.inl (wd hw 37 rfl)) Via.refl e474 Fh (g := (mkF m 15 #[.val (.ref a1), .val (.int 0)] [(.ref a1), (.ref t3)])) rfl rfl (hb hby d4_15)
  obtain ⟨T476, X476, e476, st476⟩ := getF X475 hx hZ hown (host := "") (Or.inl (wd hw 23 rfl)) Via.refl e475 F3 (g := (mkF m 21 #[.val (.ref a1), .val (.int 0)] [(.ref a1), (.int 0), (.ref t3)])) rfl rfl (hb hby d4_21)
  obtain ⟨cl477, Ar477, -, S477, M477, -, -⟩ := id V3
  obtain ⟨cl478, Ar478, q478, S478, M478, H478, G478⟩ := id V3
  have hin478 : ¬ ((0 : Int32) < 0 ∨ cl478.slots.size ≤ ((0 : Int32)).toNatClampNeg) := inb_of S478 ⟨by decide, by decide⟩
  have hat478 : cl478.slots[((0 : Int32)).toNatClampNeg]? = some (.int x0) := Has.at H478 hin478 hx0
  have pre479 : ∀ t, Steps p.tables e below (T476.setTop (mkF m 29 #[.val (.ref a1), .val (.int 0)] [(.int x0)])) t → Steps p.tables e below (s₁.setTop (entryFrame m #[(.ref a1)] 2)) t := by
    intro t kt
    refine pre0 t ?_
    show GO p e below s₁ (mkF m 0 #[.val (.ref a1), .unset] []) _
    refine XS.iconst X0.here hx rfl (hb hby d4_0) ?_
    show GO p e below s₁ (mkF m 1 #[.val (.ref a1), .unset] [(.int 0)]) _
    refine XS.istoreN X0.here hx rfl (hb hby d4_1) rfl (l' := #[.val (.ref a1), .val (.int 0)]) rfl ?_
    show GO p e below s₁ (mkF m 2 #[.val (.ref a1), .val (.int 0)] []) _
    refine XS.iloadN X0.here hx rfl (hb hby d4_2) rfl ?_
    show GO p e below s₁ (mkF m 3 #[.val (.ref a1), .val (.int 0)] [(.int 0)]) _
    refine XS.aloadN X0.here hx rfl (hb hby d4_3) rfl rfl ?_
    show GO p e below s₁ (mkF m 4 #[.val (.ref a1), .val (.int 0)] [(.ref a1), (.int 0)]) _
    refine st473 _ ?_
    show GO p e below T473 (mkF m 7 #[.val (.ref a1), .val (.int 0)] [(.int 1), (.int 0)]) _
    refine XS.icmpNo X473.here hx rfl (hb hby d4_7) rfl (tlt ((by decide) : (0 : Int32) < (1 : Int32))).2.1 ?_
    show GO p e below T473 (mkF m 10 #[.val (.ref a1), .val (.int 0)] []) _
    refine XS.aloadN X473.here hx rfl (hb hby d4_10) rfl rfl ?_
    show GO p e below T473 (mkF m 11 #[.val (.ref a1), .val (.int 0)] [(.ref a1)]) _
    refine st474 _ ?_
    show GO p e below T474 (mkF m 14 #[.val (.ref a1), .val (.int 0)] [(.ref t3)]) _
    refine XS.aloadN X474.here hx rfl (hb hby d4_14) rfl rfl ?_
    show GO p e below T474 (mkF m 15 #[.val (.ref a1), .val (.int 0)] [(.ref a1), (.ref t3)]) _
    refine st475 _ ?_
    show GO p e below T475 (mkF m 18 #[.val (.ref a1), .val (.int 0)] [(.int 0), (.ref t3)]) _
    refine XS.iloadN X475.here hx rfl (hb hby d4_18) rfl ?_
    show GO p e below T475 (mkF m 19 #[.val (.ref a1), .val (.int 0)] [(.int 0), (.int 0), (.ref t3)]) _
    refine XS.iadd X475.here hx rfl (hb hby d4_19) rfl ?_
    rw [show ((0 : Int32) + (0 : Int32)) = (0 : Int32) from by decide]
    show GO p e below T475 (mkF m 20 #[.val (.ref a1), .val (.int 0)] [(.int 0), (.ref t3)]) _
    refine XS.aloadN X475.here hx rfl (hb hby d4_20) rfl rfl ?_
    show GO p e below T475 (mkF m 21 #[.val (.ref a1), .val (.int 0)] [(.ref a1), (.int 0), (.ref t3)]) _
    refine st476 _ ?_
    show GO p e below T476 (mkF m 24 #[.val (.ref a1), .val (.int 0)] [(.ref t3), (.int 0), (.ref t3)]) _
    refine X476.arraylength hx (by rw [e476]; exact Ar477.1) (State.isArrayOf_alike hZ.alike Ar477.2.1) (g := (mkF m 24 #[.val (.ref a1), .val (.int 0)] [(.ref t3), (.int 0), (.ref t3)])) rfl rfl (hb hby d4_24) _ ?_
    rw [len_of S477 M477]
    show GO p e below T476 (mkF m 25 #[.val (.ref a1), .val (.int 0)] [(.int 8), (.int 0), (.ref t3)]) _
    refine XS.iconst X476.here hx rfl (hb hby d4_25) ?_
    show GO p e below T476 (mkF m 26 #[.val (.ref a1), .val (.int 0)] [(.int 1), (.int 8), (.int 0), (.ref t3)]) _
    refine XS.isub X476.here hx rfl (hb hby d4_26) rfl ?_
    rw [show ((8 : Int32) - (1 : Int32)) = (7 : Int32) from by decide]
    show GO p e below T476 (mkF m 27 #[.val (.ref a1), .val (.int 0)] [(.int 7), (.int 0), (.ref t3)]) _
    refine XS.iand X476.here hx rfl (hb hby d4_27) rfl ?_
    rw [show ((0 : Int32) &&& (7 : Int32)) = (0 : Int32) from by decide]
    show GO p e below T476 (mkF m 28 #[.val (.ref a1), .val (.int 0)] [(.int 0), (.ref t3)]) _
    refine X476.baloadBooleans hx (j := (0 : Int32)) (v := (.int x0)) (by rw [e476]; exact Ar478.1) (State.isArrayOf_alike hZ.alike Ar478.2.1) Ar478.2.2 hin478 hat478 (g := (mkF m 28 #[.val (.ref a1), .val (.int 0)] [(.int 0), (.ref t3)])) rfl rfl (hb hby d4_28) _ ?_
    exact kt
  by_cases hb480 : x0 = (0 : Int32)
  · obtain ⟨T481, X481, e481, st481⟩ := getF X476 hx hZ hown (host := "") (Or.inl (wd hw 30 rfl)) Via.refl e476 Fs (g := (mkF m 4 #[.val (.ref a1), .val (.int 1)] [(.ref a1), (.int 1)])) rfl rfl (hb hby d4_4)
    obtain ⟨fs, hr, hrun, hended, hW, hsame⟩ := X481.leave (v := some (.int 0)) (fun h => by rw [Bd.returns] at h; cases h)
    refine ⟨_, _, pre479 _ ?_, hrun, hended, _, _, rfl, ?_, ⟨_, rfl⟩, hW, hsame.mono (by decide) (by decide)⟩
    · show GO p e below T476 (mkF m 29 #[.val (.ref a1), .val (.int 0)] [(.int x0)]) _
      refine XS.ifYes X476.here hx rfl (pc0 := 29) (pc' := 34) rfl (hb hby d4_29) rfl ((if0 _ _).trans (teq (hb480 : x0 = (0 : Int32))).1) (by decide) (by decide) ?_
      show GO p e below T476 (mkF m 34 #[.val (.ref a1), .val (.int 0)] []) _
      refine XS.iinc X476.here hx rfl (hb hby d4_34) rfl (l' := #[.val (.ref a1), .val (.int ((0 : Int32) + (1 : Int32)))]) rfl ?_
      rw [show ((0 : Int32) + (1 : Int32)) = (1 : Int32) from by decide]
      show GO p e below T476 (mkF m 37 #[.val (.ref a1), .val (.int 1)] []) _
      refine XS.goto X476.here hx rfl (pc0 := 37) (pc' := 2) rfl (hb hby d4_37) (by decide) (by decide) ?_
      show GO p e below T476 (mkF m 2 #[.val (.ref a1), .val (.int 1)] []) _
      refine XS.iloadN X476.here hx rfl (hb hby d4_2) rfl ?_
      show GO p e below T476 (mkF m 3 #[.val (.ref a1), .val (.int 1)] [(.int 1)]) _
      refine XS.aloadN X476.here hx rfl (hb hby d4_3) rfl rfl ?_
      show GO p e below T476 (mkF m 4 #[.val (.ref a1), .val (.int 1)] [(.ref a1), (.int 1)]) _
      refine st481 _ ?_
      show GO p e below T481 (mkF m 7 #[.val (.ref a1), .val (.int 1)] [(.int 1), (.int 1)]) _
      refine XS.icmpYes X481.here hx rfl (pc0 := 7) (pc' := 40) rfl (hb hby d4_7) rfl (flt ((by decide) : ¬ ((1 : Int32) < (1 : Int32)))).2.1 (by decide) (by decide) ?_
      show GO p e below T481 (mkF m 40 #[.val (.ref a1), .val (.int 1)] []) _
      refine XS.iconst X481.here hx rfl (hb hby d4_40) ?_
      show GO p e below T481 (mkF m 41 #[.val (.ref a1), .val (.int 1)] [(.int 0)]) _
      exact retN X481 hx (t := .boolean) Bd.returns (by simp) (hb hby d4_41) hr
    · show Qrm_hold0_1 Z a1 t3 k3 vR x0 h0 n0 _ T481.heap _
      rw [e481]
      exact ⟨(by simp [own_any, hb480]), N0, rfl⟩
  · obtain ⟨fs, hr, hrun, hended, hW, hsame⟩ := X476.leave (v := some (.int 1)) (fun h => by rw [Bd.returns] at h; cases h)
    refine ⟨_, _, pre479 _ ?_, hrun, hended, _, _, rfl, ?_, ⟨_, rfl⟩, hW, hsame.mono (by decide) (by decide)⟩
    · show GO p e below T476 (mkF m 29 #[.val (.ref a1), .val (.int 0)] [(.int x0)]) _
      refine XS.ifNo X476.here hx rfl (hb hby d4_29) rfl ((if0 _ _).trans (feq (hb480 : ¬ (x0 = (0 : Int32)))).1) ?_
      show GO p e below T476 (mkF m 32 #[.val (.ref a1), .val (.int 0)] []) _
      refine XS.iconst X476.here hx rfl (hb hby d4_32) ?_
      show GO p e below T476 (mkF m 33 #[.val (.ref a1), .val (.int 0)] [(.int 1)]) _
      exact retN X476 hx (t := .boolean) Bd.returns (by simp) (hb hby d4_33) hr
    · show Qrm_hold0_1 Z a1 t3 k3 vR x0 h0 n0 _ T476.heap _
      rw [e476]
      exact ⟨(by simp [own_any, hb480]), N0, rfl⟩
def Qrm_hold0_2 (Z : State) (a1 : Addr) (t3 : Addr) (k3 : ClassId) (vR : List Value) (x0 : Int32) (x1 : Int32) (h0 : Heap) (n0 : Nat) (v : Option Value) (h : Heap) (L : List Loc) : Prop := v = some (.int (own_any [x0, x1])) ∧ Fr n0 L ∧ h = h0
theorem ef_rm_hold0_2 (m : MethodId) (x0 : Addr) : entryFrame m #[(.ref x0)] 2 = mkF m 0 #[.val (.ref x0), .unset] [] := by first | rfl | (simp [entryFrame, mkF, argsToLocals, Value.category]; done)
set_option maxRecDepth 65536 in
set_option maxHeartbeats 40000000 in
theorem rm_hold0_2 (l : Launch) (Z : State) (a0 : Array Value) (hw : ∀ d ∈ tables_1, d.before a0 Z = true) (ws : List Jvm.Cond) (a1 : Addr) (t3 : Addr) (k3 : ClassId) (vR : List Value) (x0 : Int32) (x1 : Int32) (h0 : Heap) (n0 : Nat) (Z0 : n0 ≤ h0.size) (Fh : Fld Z h0 a1 kS0 "head" "I" (.int 0)) (Fs : Fld Z h0 a1 kS0 "size" "I" (.int 2)) (F3 : Fld Z h0 a1 kS0 "rears" "[Z" (.ref t3)) (V3 : Arv Z h0 t3 k3 .boolean (8 : Int32) vR (.int 0)) (hx0 : vR.getD ((0 : Int32)).toNatClampNeg (.int 0) = (.int x0)) (hx1 : vR.getD ((1 : Int32)).toNatClampNeg (.int 0) = (.int x1)) :
    MetFree l (⟨kS0, "holdsRear", "()Z"⟩ : MethodName) (head1 (Jvm.Cond.code (⟨kS0, "holdsRear", "()Z"⟩ : MethodName) prog_14_method_10_code 2 (some .boolean) :: ws) ({ frames := 0, cells := 0, slots := 0, locals := 0 } : Room)) (fun a U => a = #[(.ref a1)] ∧ Z.Warmed39 U.vm ∧ U.heap = h0) (fun _ _ _ _ _ => True) (fun _ U o U' => ∃ v L, o = .returned v ∧ Qrm_hold0_2 Z a1 t3 k3 vR x0 x1 h0 n0 v U'.heap L ∧ FrameEnd U o U' L ({ frames := 0, cells := 0, slots := 0, locals := 0 } : Room).cells ({ frames := 0, cells := 0, slots := 0, locals := 0 } : Room).slots) := by
  refine MetFree.of_bodySF (plainFor_of_name pn_0) hisR ?_
  intro p e s m args below meth c s₁ Bd hml0 hP hK
  obtain ⟨rfl, hZ, hh⟩ := hP
  have hx := Bd.exec
  have hby := Bd.bytes
  have hml : c.maxLocals = 2 := hml0
  have hown : s.vm.findClass kS0 = some m.cls := findClass_of_methodNamed Bd.named
  have hnm := (name_of_methodNamed Bd.named Bd.method).1
  have X0 : Stand p l e ({ frames := 0, cells := 0, slots := 0, locals := 0 } : Room) s m #[(.ref a1)] below meth c s₁ [] 0 0 := Stand.of_body Bd
  have e0 : s₁.heap = h0 := by rw [← hh, Bd.state]; rfl
  have N0 := Fr.nil n0
  have pre0 : ∀ t, Steps p.tables e below (s₁.setTop (mkF m 0 #[.val (.ref a1), .unset] [])) t → Steps p.tables e below (s₁.setTop (entryFrame m #[(.ref a1)] 2)) t := fun t k => castTop (ef_rm_hold0_2 m a1) k
  have lt_Fh := ltA Fh.lt
  have lt_Fs := ltA Fs.lt
  have lt_F3 := ltA F3.lt
  have lt_V3 := ltA V3.lt
  obtain ⟨T482, X482, e482, st482⟩ := getF X0 hx hZ hown (host := "") (Or.inl (wd hw 30 rfl)) Via.refl e0 Fs (g := (mkF m 4 #[.val (.ref a1), .val (.int 0)] [(.ref a1), (.int 0)])) rfl rfl (hb hby d4_4)
  obtain ⟨T483, X483, e483, st483⟩ := getF X482 hx hZ hown (host := "") (Or.inl (wd hw 23 rfl)) Via.refl e482 F3 (g := (mkF m 11 #[.val (.ref a1), .val (.int 0)] [(.ref a1)])) rfl rfl (hb hby d4_11)
  obtain ⟨T484, X484, e484, st484⟩ := getF X483 hx hZ hown (host := "") (Or.inl (wd hw 37 rfl)) Via.refl e483 Fh (g := (mkF m 15 #[.val (.ref a1), .val (.int 0)] [(.ref a1), (.ref t3)])) rfl rfl (hb hby d4_15)
  obtain ⟨T485, X485, e485, st485⟩ := getF X484 hx hZ hown (host := "") (Or.inl (wd hw 23 rfl)) Via.refl e484 F3 (g := (mkF m 21 #[.val (.ref a1), .val (.int 0)] [(.ref a1), (.int 0), (.ref t3)])) rfl rfl (hb hby d4_21)
  obtain ⟨cl486, Ar486, -, S486, M486, -, -⟩ := id V3
  obtain ⟨cl487, Ar487, q487, S487, M487, H487, G487⟩ := id V3
  have hin487 : ¬ ((0 : Int32) < 0 ∨ cl487.slots.size ≤ ((0 : Int32)).toNatClampNeg) := inb_of S487 ⟨by decide, by decide⟩
  have hat487 : cl487.slots[((0 : Int32)).toNatClampNeg]? = some (.int x0) := Has.at H487 hin487 hx0
  have pre488 : ∀ t, Steps p.tables e below (T485.setTop (mkF m 29 #[.val (.ref a1), .val (.int 0)] [(.int x0)])) t → Steps p.tables e below (s₁.setTop (entryFrame m #[(.ref a1)] 2)) t := by
    intro t kt
    refine pre0 t ?_
    show GO p e below s₁ (mkF m 0 #[.val (.ref a1), .unset] []) _
    refine XS.iconst X0.here hx rfl (hb hby d4_0) ?_
    show GO p e below s₁ (mkF m 1 #[.val (.ref a1), .unset] [(.int 0)]) _
    refine XS.istoreN X0.here hx rfl (hb hby d4_1) rfl (l' := #[.val (.ref a1), .val (.int 0)]) rfl ?_
    show GO p e below s₁ (mkF m 2 #[.val (.ref a1), .val (.int 0)] []) _
    refine XS.iloadN X0.here hx rfl (hb hby d4_2) rfl ?_
    show GO p e below s₁ (mkF m 3 #[.val (.ref a1), .val (.int 0)] [(.int 0)]) _
    refine XS.aloadN X0.here hx rfl (hb hby d4_3) rfl rfl ?_
    show GO p e below s₁ (mkF m 4 #[.val (.ref a1), .val (.int 0)] [(.ref a1), (.int 0)]) _
    refine st482 _ ?_
    show GO p e below T482 (mkF m 7 #[.val (.ref a1), .val (.int 0)] [(.int 2), (.int 0)]) _
    refine XS.icmpNo X482.here hx rfl (hb hby d4_7) rfl (tlt ((by decide) : (0 : Int32) < (2 : Int32))).2.1 ?_
    show GO p e below T482 (mkF m 10 #[.val (.ref a1), .val (.int 0)] []) _
    refine XS.aloadN X482.here hx rfl (hb hby d4_10) rfl rfl ?_
    show GO p e below T482 (mkF m 11 #[.val (.ref a1), .val (.int 0)] [(.ref a1)]) _
    refine st483 _ ?_
    show GO p e below T483 (mkF m 14 #[.val (.ref a1), .val (.int 0)] [(.ref t3)]) _
    refine XS.aloadN X483.here hx rfl (hb hby d4_14) rfl rfl ?_
    show GO p e below T483 (mkF m 15 #[.val (.ref a1), .val (.int 0)] [(.ref a1), (.ref t3)]) _
    refine st484 _ ?_
    show GO p e below T484 (mkF m 18 #[.val (.ref a1), .val (.int 0)] [(.int 0), (.ref t3)]) _
    refine XS.iloadN X484.here hx rfl (hb hby d4_18) rfl ?_
    show GO p e below T484 (mkF m 19 #[.val (.ref a1), .val (.int 0)] [(.int 0), (.int 0), (.ref t3)]) _
    refine XS.iadd X484.here hx rfl (hb hby d4_19) rfl ?_
    rw [show ((0 : Int32) + (0 : Int32)) = (0 : Int32) from by decide]
    show GO p e below T484 (mkF m 20 #[.val (.ref a1), .val (.int 0)] [(.int 0), (.ref t3)]) _
    refine XS.aloadN X484.here hx rfl (hb hby d4_20) rfl rfl ?_
    show GO p e below T484 (mkF m 21 #[.val (.ref a1), .val (.int 0)] [(.ref a1), (.int 0), (.ref t3)]) _
    refine st485 _ ?_
    show GO p e below T485 (mkF m 24 #[.val (.ref a1), .val (.int 0)] [(.ref t3), (.int 0), (.ref t3)]) _
    refine X485.arraylength hx (by rw [e485]; exact Ar486.1) (State.isArrayOf_alike hZ.alike Ar486.2.1) (g := (mkF m 24 #[.val (.ref a1), .val (.int 0)] [(.ref t3), (.int 0), (.ref t3)])) rfl rfl (hb hby d4_24) _ ?_
    rw [len_of S486 M486]
    show GO p e below T485 (mkF m 25 #[.val (.ref a1), .val (.int 0)] [(.int 8), (.int 0), (.ref t3)]) _
    refine XS.iconst X485.here hx rfl (hb hby d4_25) ?_
    show GO p e below T485 (mkF m 26 #[.val (.ref a1), .val (.int 0)] [(.int 1), (.int 8), (.int 0), (.ref t3)]) _
    refine XS.isub X485.here hx rfl (hb hby d4_26) rfl ?_
    rw [show ((8 : Int32) - (1 : Int32)) = (7 : Int32) from by decide]
    show GO p e below T485 (mkF m 27 #[.val (.ref a1), .val (.int 0)] [(.int 7), (.int 0), (.ref t3)]) _
    refine XS.iand X485.here hx rfl (hb hby d4_27) rfl ?_
    rw [show ((0 : Int32) &&& (7 : Int32)) = (0 : Int32) from by decide]
    show GO p e below T485 (mkF m 28 #[.val (.ref a1), .val (.int 0)] [(.int 0), (.ref t3)]) _
    refine X485.baloadBooleans hx (j := (0 : Int32)) (v := (.int x0)) (by rw [e485]; exact Ar487.1) (State.isArrayOf_alike hZ.alike Ar487.2.1) Ar487.2.2 hin487 hat487 (g := (mkF m 28 #[.val (.ref a1), .val (.int 0)] [(.int 0), (.ref t3)])) rfl rfl (hb hby d4_28) _ ?_
    exact kt
  by_cases hb489 : x0 = (0 : Int32)
  · obtain ⟨T490, X490, e490, st490⟩ := getF X485 hx hZ hown (host := "") (Or.inl (wd hw 30 rfl)) Via.refl e485 Fs (g := (mkF m 4 #[.val (.ref a1), .val (.int 1)] [(.ref a1), (.int 1)])) rfl rfl (hb hby d4_4)
    obtain ⟨T491, X491, e491, st491⟩ := getF X490 hx hZ hown (host := "") (Or.inl (wd hw 23 rfl)) Via.refl e490 F3 (g := (mkF m 11 #[.val (.ref a1), .val (.int 1)] [(.ref a1)])) rfl rfl (hb hby d4_11)
    obtain ⟨T492, X492, e492, st492⟩ := getF X491 hx hZ hown (host := "") (Or.inl (wd hw 37 rfl)) Via.refl e491 Fh (g := (mkF m 15 #[.val (.ref a1), .val (.int 1)] [(.ref a1), (.ref t3)])) rfl rfl (hb hby d4_15)
    obtain ⟨T493, X493, e493, st493⟩ := getF X492 hx hZ hown (host := "") (Or.inl (wd hw 23 rfl)) Via.refl e492 F3 (g := (mkF m 21 #[.val (.ref a1), .val (.int 1)] [(.ref a1), (.int 1), (.ref t3)])) rfl rfl (hb hby d4_21)
    obtain ⟨cl494, Ar494, -, S494, M494, -, -⟩ := id V3
    obtain ⟨cl495, Ar495, q495, S495, M495, H495, G495⟩ := id V3
    have hin495 : ¬ ((1 : Int32) < 0 ∨ cl495.slots.size ≤ ((1 : Int32)).toNatClampNeg) := inb_of S495 ⟨by decide, by decide⟩
    have hat495 : cl495.slots[((1 : Int32)).toNatClampNeg]? = some (.int x1) := Has.at H495 hin495 hx1
    have pre496 : ∀ t, Steps p.tables e below (T493.setTop (mkF m 29 #[.val (.ref a1), .val (.int 1)] [(.int x1)])) t → Steps p.tables e below (s₁.setTop (entryFrame m #[(.ref a1)] 2)) t := by
      intro t kt
      refine pre488 t ?_
      show GO p e below T485 (mkF m 29 #[.val (.ref a1), .val (.int 0)] [(.int x0)]) _
      refine XS.ifYes X485.here hx rfl (pc0 := 29) (pc' := 34) rfl (hb hby d4_29) rfl ((if0 _ _).trans (teq (hb489 : x0 = (0 : Int32))).1) (by decide) (by decide) ?_
      show GO p e below T485 (mkF m 34 #[.val (.ref a1), .val (.int 0)] []) _
      refine XS.iinc X485.here hx rfl (hb hby d4_34) rfl (l' := #[.val (.ref a1), .val (.int ((0 : Int32) + (1 : Int32)))]) rfl ?_
      rw [show ((0 : Int32) + (1 : Int32)) = (1 : Int32) from by decide]
      show GO p e below T485 (mkF m 37 #[.val (.ref a1), .val (.int 1)] []) _
      refine XS.goto X485.here hx rfl (pc0 := 37) (pc' := 2) rfl (hb hby d4_37) (by decide) (by decide) ?_
      show GO p e below T485 (mkF m 2 #[.val (.ref a1), .val (.int 1)] []) _
      refine XS.iloadN X485.here hx rfl (hb hby d4_2) rfl ?_
      show GO p e below T485 (mkF m 3 #[.val (.ref a1), .val (.int 1)] [(.int 1)]) _
      refine XS.aloadN X485.here hx rfl (hb hby d4_3) rfl rfl ?_
      show GO p e below T485 (mkF m 4 #[.val (.ref a1), .val (.int 1)] [(.ref a1), (.int 1)]) _
      refine st490 _ ?_
      show GO p e below T490 (mkF m 7 #[.val (.ref a1), .val (.int 1)] [(.int 2), (.int 1)]) _
      refine XS.icmpNo X490.here hx rfl (hb hby d4_7) rfl (tlt ((by decide) : (1 : Int32) < (2 : Int32))).2.1 ?_
      show GO p e below T490 (mkF m 10 #[.val (.ref a1), .val (.int 1)] []) _
      refine XS.aloadN X490.here hx rfl (hb hby d4_10) rfl rfl ?_
      show GO p e below T490 (mkF m 11 #[.val (.ref a1), .val (.int 1)] [(.ref a1)]) _
      refine st491 _ ?_
      show GO p e below T491 (mkF m 14 #[.val (.ref a1), .val (.int 1)] [(.ref t3)]) _
      refine XS.aloadN X491.here hx rfl (hb hby d4_14) rfl rfl ?_
      show GO p e below T491 (mkF m 15 #[.val (.ref a1), .val (.int 1)] [(.ref a1), (.ref t3)]) _
      refine st492 _ ?_
      show GO p e below T492 (mkF m 18 #[.val (.ref a1), .val (.int 1)] [(.int 0), (.ref t3)]) _
      refine XS.iloadN X492.here hx rfl (hb hby d4_18) rfl ?_
      show GO p e below T492 (mkF m 19 #[.val (.ref a1), .val (.int 1)] [(.int 1), (.int 0), (.ref t3)]) _
      refine XS.iadd X492.here hx rfl (hb hby d4_19) rfl ?_
      rw [show ((0 : Int32) + (1 : Int32)) = (1 : Int32) from by decide]
      show GO p e below T492 (mkF m 20 #[.val (.ref a1), .val (.int 1)] [(.int 1), (.ref t3)]) _
      refine XS.aloadN X492.here hx rfl (hb hby d4_20) rfl rfl ?_
      show GO p e below T492 (mkF m 21 #[.val (.ref a1), .val (.int 1)] [(.ref a1), (.int 1), (.ref t3)]) _
      refine st493 _ ?_
      show GO p e below T493 (mkF m 24 #[.val (.ref a1), .val (.int 1)] [(.ref t3), (.int 1), (.ref t3)]) _
      refine X493.arraylength hx (by rw [e493]; exact Ar494.1) (State.isArrayOf_alike hZ.alike Ar494.2.1) (g := (mkF m 24 #[.val (.ref a1), .val (.int 1)] [(.ref t3), (.int 1), (.ref t3)])) rfl rfl (hb hby d4_24) _ ?_
      rw [len_of S494 M494]
      show GO p e below T493 (mkF m 25 #[.val (.ref a1), .val (.int 1)] [(.int 8), (.int 1), (.ref t3)]) _
      refine XS.iconst X493.here hx rfl (hb hby d4_25) ?_
      show GO p e below T493 (mkF m 26 #[.val (.ref a1), .val (.int 1)] [(.int 1), (.int 8), (.int 1), (.ref t3)]) _
      refine XS.isub X493.here hx rfl (hb hby d4_26) rfl ?_
      rw [show ((8 : Int32) - (1 : Int32)) = (7 : Int32) from by decide]
      show GO p e below T493 (mkF m 27 #[.val (.ref a1), .val (.int 1)] [(.int 7), (.int 1), (.ref t3)]) _
      refine XS.iand X493.here hx rfl (hb hby d4_27) rfl ?_
      rw [show ((1 : Int32) &&& (7 : Int32)) = (1 : Int32) from by decide]
      show GO p e below T493 (mkF m 28 #[.val (.ref a1), .val (.int 1)] [(.int 1), (.ref t3)]) _
      refine X493.baloadBooleans hx (j := (1 : Int32)) (v := (.int x1)) (by rw [e493]; exact Ar495.1) (State.isArrayOf_alike hZ.alike Ar495.2.1) Ar495.2.2 hin495 hat495 (g := (mkF m 28 #[.val (.ref a1), .val (.int 1)] [(.int 1), (.ref t3)])) rfl rfl (hb hby d4_28) _ ?_
      exact kt
    by_cases hb497 : x1 = (0 : Int32)
    · obtain ⟨T498, X498, e498, st498⟩ := getF X493 hx hZ hown (host := "") (Or.inl (wd hw 30 rfl)) Via.refl e493 Fs (g := (mkF m 4 #[.val (.ref a1), .val (.int 2)] [(.ref a1), (.int 2)])) rfl rfl (hb hby d4_4)
      obtain ⟨fs, hr, hrun, hended, hW, hsame⟩ := X498.leave (v := some (.int 0)) (fun h => by rw [Bd.returns] at h; cases h)
      refine ⟨_, _, pre496 _ ?_, hrun, hended, _, _, rfl, ?_, ⟨_, rfl⟩, hW, hsame.mono (by decide) (by decide)⟩
      · show GO p e below T493 (mkF m 29 #[.val (.ref a1), .val (.int 1)] [(.int x1)]) _
        refine XS.ifYes X493.here hx rfl (pc0 := 29) (pc' := 34) rfl (hb hby d4_29) rfl ((if0 _ _).trans (teq (hb497 : x1 = (0 : Int32))).1) (by decide) (by decide) ?_
        show GO p e below T493 (mkF m 34 #[.val (.ref a1), .val (.int 1)] []) _
        refine XS.iinc X493.here hx rfl (hb hby d4_34) rfl (l' := #[.val (.ref a1), .val (.int ((1 : Int32) + (1 : Int32)))]) rfl ?_
        rw [show ((1 : Int32) + (1 : Int32)) = (2 : Int32) from by decide]
        show GO p e below T493 (mkF m 37 #[.val (.ref a1), .val (.int 2)] []) _
        refine XS.goto X493.here hx rfl (pc0 := 37) (pc' := 2) rfl (hb hby d4_37) (by decide) (by decide) ?_
        show GO p e below T493 (mkF m 2 #[.val (.ref a1), .val (.int 2)] []) _
        refine XS.iloadN X493.here hx rfl (hb hby d4_2) rfl ?_
        show GO p e below T493 (mkF m 3 #[.val (.ref a1), .val (.int 2)] [(.int 2)]) _
        refine XS.aloadN X493.here hx rfl (hb hby d4_3) rfl rfl ?_
        show GO p e below T493 (mkF m 4 #[.val (.ref a1), .val (.int 2)] [(.ref a1), (.int 2)]) _
        refine st498 _ ?_
        show GO p e below T498 (mkF m 7 #[.val (.ref a1), .val (.int 2)] [(.int 2), (.int 2)]) _
        refine XS.icmpYes X498.here hx rfl (pc0 := 7) (pc' := 40) rfl (hb hby d4_7) rfl (flt ((by decide) : ¬ ((2 : Int32) < (2 : Int32)))).2.1 (by decide) (by decide) ?_
        show GO p e below T498 (mkF m 40 #[.val (.ref a1), .val (.int 2)] []) _
        refine XS.iconst X498.here hx rfl (hb hby d4_40) ?_
        show GO p e below T498 (mkF m 41 #[.val (.ref a1), .val (.int 2)] [(.int 0)]) _
        exact retN X498 hx (t := .boolean) Bd.returns (by simp) (hb hby d4_41) hr
      · show Qrm_hold0_2 Z a1 t3 k3 vR x0 x1 h0 n0 _ T498.heap _
        rw [e498]
        exact ⟨(by simp [own_any, hb489, hb497]), N0, rfl⟩
    · obtain ⟨fs, hr, hrun, hended, hW, hsame⟩ := X493.leave (v := some (.int 1)) (fun h => by rw [Bd.returns] at h; cases h)
      refine ⟨_, _, pre496 _ ?_, hrun, hended, _, _, rfl, ?_, ⟨_, rfl⟩, hW, hsame.mono (by decide) (by decide)⟩
      · show GO p e below T493 (mkF m 29 #[.val (.ref a1), .val (.int 1)] [(.int x1)]) _
        refine XS.ifNo X493.here hx rfl (hb hby d4_29) rfl ((if0 _ _).trans (feq (hb497 : ¬ (x1 = (0 : Int32)))).1) ?_
        show GO p e below T493 (mkF m 32 #[.val (.ref a1), .val (.int 1)] []) _
        refine XS.iconst X493.here hx rfl (hb hby d4_32) ?_
        show GO p e below T493 (mkF m 33 #[.val (.ref a1), .val (.int 1)] [(.int 1)]) _
        exact retN X493 hx (t := .boolean) Bd.returns (by simp) (hb hby d4_33) hr
      · show Qrm_hold0_2 Z a1 t3 k3 vR x0 x1 h0 n0 _ T493.heap _
        rw [e493]
        exact ⟨(by simp [own_any, hb489, hb497]), N0, rfl⟩
  · obtain ⟨fs, hr, hrun, hended, hW, hsame⟩ := X485.leave (v := some (.int 1)) (fun h => by rw [Bd.returns] at h; cases h)
    refine ⟨_, _, pre488 _ ?_, hrun, hended, _, _, rfl, ?_, ⟨_, rfl⟩, hW, hsame.mono (by decide) (by decide)⟩
    · show GO p e below T485 (mkF m 29 #[.val (.ref a1), .val (.int 0)] [(.int x0)]) _
      refine XS.ifNo X485.here hx rfl (hb hby d4_29) rfl ((if0 _ _).trans (feq (hb489 : ¬ (x0 = (0 : Int32)))).1) ?_
      show GO p e below T485 (mkF m 32 #[.val (.ref a1), .val (.int 0)] []) _
      refine XS.iconst X485.here hx rfl (hb hby d4_32) ?_
      show GO p e below T485 (mkF m 33 #[.val (.ref a1), .val (.int 0)] [(.int 1)]) _
      exact retN X485 hx (t := .boolean) Bd.returns (by simp) (hb hby d4_33) hr
    · show Qrm_hold0_2 Z a1 t3 k3 vR x0 x1 h0 n0 _ T485.heap _
      rw [e485]
      exact ⟨(by simp [own_any, hb489]), N0, rfl⟩
def Qrm_hold0_3 (Z : State) (a1 : Addr) (t3 : Addr) (k3 : ClassId) (vR : List Value) (x0 : Int32) (x1 : Int32) (x2 : Int32) (h0 : Heap) (n0 : Nat) (v : Option Value) (h : Heap) (L : List Loc) : Prop := v = some (.int (own_any [x0, x1, x2])) ∧ Fr n0 L ∧ h = h0
theorem ef_rm_hold0_3 (m : MethodId) (x0 : Addr) : entryFrame m #[(.ref x0)] 2 = mkF m 0 #[.val (.ref x0), .unset] [] := by first | rfl | (simp [entryFrame, mkF, argsToLocals, Value.category]; done)
set_option maxRecDepth 65536 in
set_option maxHeartbeats 40000000 in
theorem rm_hold0_3 (l : Launch) (Z : State) (a0 : Array Value) (hw : ∀ d ∈ tables_1, d.before a0 Z = true) (ws : List Jvm.Cond) (a1 : Addr) (t3 : Addr) (k3 : ClassId) (vR : List Value) (x0 : Int32) (x1 : Int32) (x2 : Int32) (h0 : Heap) (n0 : Nat) (Z0 : n0 ≤ h0.size) (Fh : Fld Z h0 a1 kS0 "head" "I" (.int 0)) (Fs : Fld Z h0 a1 kS0 "size" "I" (.int 3)) (F3 : Fld Z h0 a1 kS0 "rears" "[Z" (.ref t3)) (V3 : Arv Z h0 t3 k3 .boolean (8 : Int32) vR (.int 0)) (hx0 : vR.getD ((0 : Int32)).toNatClampNeg (.int 0) = (.int x0)) (hx1 : vR.getD ((1 : Int32)).toNatClampNeg (.int 0) = (.int x1)) (hx2 : vR.getD ((2 : Int32)).toNatClampNeg (.int 0) = (.int x2)) :
    MetFree l (⟨kS0, "holdsRear", "()Z"⟩ : MethodName) (head1 (Jvm.Cond.code (⟨kS0, "holdsRear", "()Z"⟩ : MethodName) prog_14_method_10_code 2 (some .boolean) :: ws) ({ frames := 0, cells := 0, slots := 0, locals := 0 } : Room)) (fun a U => a = #[(.ref a1)] ∧ Z.Warmed39 U.vm ∧ U.heap = h0) (fun _ _ _ _ _ => True) (fun _ U o U' => ∃ v L, o = .returned v ∧ Qrm_hold0_3 Z a1 t3 k3 vR x0 x1 x2 h0 n0 v U'.heap L ∧ FrameEnd U o U' L ({ frames := 0, cells := 0, slots := 0, locals := 0 } : Room).cells ({ frames := 0, cells := 0, slots := 0, locals := 0 } : Room).slots) := by
  refine MetFree.of_bodySF (plainFor_of_name pn_0) hisR ?_
  intro p e s m args below meth c s₁ Bd hml0 hP hK
  obtain ⟨rfl, hZ, hh⟩ := hP
  have hx := Bd.exec
  have hby := Bd.bytes
  have hml : c.maxLocals = 2 := hml0
  have hown : s.vm.findClass kS0 = some m.cls := findClass_of_methodNamed Bd.named
  have hnm := (name_of_methodNamed Bd.named Bd.method).1
  have X0 : Stand p l e ({ frames := 0, cells := 0, slots := 0, locals := 0 } : Room) s m #[(.ref a1)] below meth c s₁ [] 0 0 := Stand.of_body Bd
  have e0 : s₁.heap = h0 := by rw [← hh, Bd.state]; rfl
  have N0 := Fr.nil n0
  have pre0 : ∀ t, Steps p.tables e below (s₁.setTop (mkF m 0 #[.val (.ref a1), .unset] [])) t → Steps p.tables e below (s₁.setTop (entryFrame m #[(.ref a1)] 2)) t := fun t k => castTop (ef_rm_hold0_3 m a1) k
  have lt_Fh := ltA Fh.lt
  have lt_Fs := ltA Fs.lt
  have lt_F3 := ltA F3.lt
  have lt_V3 := ltA V3.lt
  obtain ⟨T499, X499, e499, st499⟩ := getF X0 hx hZ hown (host := "") (Or.inl (wd hw 30 rfl)) Via.refl e0 Fs (g := (mkF m 4 #[.val (.ref a1), .val (.int 0)] [(.ref a1), (.int 0)])) rfl rfl (hb hby d4_4)
  obtain ⟨T500, X500, e500, st500⟩ := getF X499 hx hZ hown (host := "") (Or.inl (wd hw 23 rfl)) Via.refl e499 F3 (g := (mkF m 11 #[.val (.ref a1), .val (.int 0)] [(.ref a1)])) rfl rfl (hb hby d4_11)
  obtain ⟨T501, X501, e501, st501⟩ := getF X500 hx hZ hown (host := "") (Or.inl (wd hw 37 rfl)) Via.refl e500 Fh (g := (mkF m 15 #[.val (.ref a1), .val (.int 0)] [(.ref a1), (.ref t3)])) rfl rfl (hb hby d4_15)
  obtain ⟨T502, X502, e502, st502⟩ := getF X501 hx hZ hown (host := "") (Or.inl (wd hw 23 rfl)) Via.refl e501 F3 (g := (mkF m 21 #[.val (.ref a1), .val (.int 0)] [(.ref a1), (.int 0), (.ref t3)])) rfl rfl (hb hby d4_21)
  obtain ⟨cl503, Ar503, -, S503, M503, -, -⟩ := id V3
  obtain ⟨cl504, Ar504, q504, S504, M504, H504, G504⟩ := id V3
  have hin504 : ¬ ((0 : Int32) < 0 ∨ cl504.slots.size ≤ ((0 : Int32)).toNatClampNeg) := inb_of S504 ⟨by decide, by decide⟩
  have hat504 : cl504.slots[((0 : Int32)).toNatClampNeg]? = some (.int x0) := Has.at H504 hin504 hx0
  have pre505 : ∀ t, Steps p.tables e below (T502.setTop (mkF m 29 #[.val (.ref a1), .val (.int 0)] [(.int x0)])) t → Steps p.tables e below (s₁.setTop (entryFrame m #[(.ref a1)] 2)) t := by
    intro t kt
    refine pre0 t ?_
    show GO p e below s₁ (mkF m 0 #[.val (.ref a1), .unset] []) _
    refine XS.iconst X0.here hx rfl (hb hby d4_0) ?_
    show GO p e below s₁ (mkF m 1 #[.val (.ref a1), .unset] [(.int 0)]) _
    refine XS.istoreN X0.here hx rfl (hb hby d4_1) rfl (l' := #[.val (.ref a1), .val (.int 0)]) rfl ?_
    show GO p e below s₁ (mkF m 2 #[.val (.ref a1), .val (.int 0)] []) _
    refine XS.iloadN X0.here hx rfl (hb hby d4_2) rfl ?_
    show GO p e below s₁ (mkF m 3 #[.val (.ref a1), .val (.int 0)] [(.int 0)]) _
    refine XS.aloadN X0.here hx rfl (hb hby d4_3) rfl rfl ?_
    show GO p e below s₁ (mkF m 4 #[.val (.ref a1), .val (.int 0)] [(.ref a1), (.int 0)]) _
    refine st499 _ ?_
    show GO p e below T499 (mkF m 7 #[.val (.ref a1), .val (.int 0)] [(.int 3), (.int 0)]) _
    refine XS.icmpNo X499.here hx rfl (hb hby d4_7) rfl (tlt ((by decide) : (0 : Int32) < (3 : Int32))).2.1 ?_
    show GO p e below T499 (mkF m 10 #[.val (.ref a1), .val (.int 0)] []) _
    refine XS.aloadN X499.here hx rfl (hb hby d4_10) rfl rfl ?_
    show GO p e below T499 (mkF m 11 #[.val (.ref a1), .val (.int 0)] [(.ref a1)]) _
    refine st500 _ ?_
    show GO p e below T500 (mkF m 14 #[.val (.ref a1), .val (.int 0)] [(.ref t3)]) _
    refine XS.aloadN X500.here hx rfl (hb hby d4_14) rfl rfl ?_
    show GO p e below T500 (mkF m 15 #[.val (.ref a1), .val (.int 0)] [(.ref a1), (.ref t3)]) _
    refine st501 _ ?_
    show GO p e below T501 (mkF m 18 #[.val (.ref a1), .val (.int 0)] [(.int 0), (.ref t3)]) _
    refine XS.iloadN X501.here hx rfl (hb hby d4_18) rfl ?_
    show GO p e below T501 (mkF m 19 #[.val (.ref a1), .val (.int 0)] [(.int 0), (.int 0), (.ref t3)]) _
    refine XS.iadd X501.here hx rfl (hb hby d4_19) rfl ?_
    rw [show ((0 : Int32) + (0 : Int32)) = (0 : Int32) from by decide]
    show GO p e below T501 (mkF m 20 #[.val (.ref a1), .val (.int 0)] [(.int 0), (.ref t3)]) _
    refine XS.aloadN X501.here hx rfl (hb hby d4_20) rfl rfl ?_
    show GO p e below T501 (mkF m 21 #[.val (.ref a1), .val (.int 0)] [(.ref a1), (.int 0), (.ref t3)]) _
    refine st502 _ ?_
    show GO p e below T502 (mkF m 24 #[.val (.ref a1), .val (.int 0)] [(.ref t3), (.int 0), (.ref t3)]) _
    refine X502.arraylength hx (by rw [e502]; exact Ar503.1) (State.isArrayOf_alike hZ.alike Ar503.2.1) (g := (mkF m 24 #[.val (.ref a1), .val (.int 0)] [(.ref t3), (.int 0), (.ref t3)])) rfl rfl (hb hby d4_24) _ ?_
    rw [len_of S503 M503]
    show GO p e below T502 (mkF m 25 #[.val (.ref a1), .val (.int 0)] [(.int 8), (.int 0), (.ref t3)]) _
    refine XS.iconst X502.here hx rfl (hb hby d4_25) ?_
    show GO p e below T502 (mkF m 26 #[.val (.ref a1), .val (.int 0)] [(.int 1), (.int 8), (.int 0), (.ref t3)]) _
    refine XS.isub X502.here hx rfl (hb hby d4_26) rfl ?_
    rw [show ((8 : Int32) - (1 : Int32)) = (7 : Int32) from by decide]
    show GO p e below T502 (mkF m 27 #[.val (.ref a1), .val (.int 0)] [(.int 7), (.int 0), (.ref t3)]) _
    refine XS.iand X502.here hx rfl (hb hby d4_27) rfl ?_
    rw [show ((0 : Int32) &&& (7 : Int32)) = (0 : Int32) from by decide]
    show GO p e below T502 (mkF m 28 #[.val (.ref a1), .val (.int 0)] [(.int 0), (.ref t3)]) _
    refine X502.baloadBooleans hx (j := (0 : Int32)) (v := (.int x0)) (by rw [e502]; exact Ar504.1) (State.isArrayOf_alike hZ.alike Ar504.2.1) Ar504.2.2 hin504 hat504 (g := (mkF m 28 #[.val (.ref a1), .val (.int 0)] [(.int 0), (.ref t3)])) rfl rfl (hb hby d4_28) _ ?_
    exact kt
  by_cases hb506 : x0 = (0 : Int32)
  · obtain ⟨T507, X507, e507, st507⟩ := getF X502 hx hZ hown (host := "") (Or.inl (wd hw 30 rfl)) Via.refl e502 Fs (g := (mkF m 4 #[.val (.ref a1), .val (.int 1)] [(.ref a1), (.int 1)])) rfl rfl (hb hby d4_4)
    obtain ⟨T508, X508, e508, st508⟩ := getF X507 hx hZ hown (host := "") (Or.inl (wd hw 23 rfl)) Via.refl e507 F3 (g := (mkF m 11 #[.val (.ref a1), .val (.int 1)] [(.ref a1)])) rfl rfl (hb hby d4_11)
    obtain ⟨T509, X509, e509, st509⟩ := getF X508 hx hZ hown (host := "") (Or.inl (wd hw 37 rfl)) Via.refl e508 Fh (g := (mkF m 15 #[.val (.ref a1), .val (.int 1)] [(.ref a1), (.ref t3)])) rfl rfl (hb hby d4_15)
    obtain ⟨T510, X510, e510, st510⟩ := getF X509 hx hZ hown (host := "") (Or.inl (wd hw 23 rfl)) Via.refl e509 F3 (g := (mkF m 21 #[.val (.ref a1), .val (.int 1)] [(.ref a1), (.int 1), (.ref t3)])) rfl rfl (hb hby d4_21)
    obtain ⟨cl511, Ar511, -, S511, M511, -, -⟩ := id V3
    obtain ⟨cl512, Ar512, q512, S512, M512, H512, G512⟩ := id V3
    have hin512 : ¬ ((1 : Int32) < 0 ∨ cl512.slots.size ≤ ((1 : Int32)).toNatClampNeg) := inb_of S512 ⟨by decide, by decide⟩
    have hat512 : cl512.slots[((1 : Int32)).toNatClampNeg]? = some (.int x1) := Has.at H512 hin512 hx1
    have pre513 : ∀ t, Steps p.tables e below (T510.setTop (mkF m 29 #[.val (.ref a1), .val (.int 1)] [(.int x1)])) t → Steps p.tables e below (s₁.setTop (entryFrame m #[(.ref a1)] 2)) t := by
      intro t kt
      refine pre505 t ?_
      show GO p e below T502 (mkF m 29 #[.val (.ref a1), .val (.int 0)] [(.int x0)]) _
      refine XS.ifYes X502.here hx rfl (pc0 := 29) (pc' := 34) rfl (hb hby d4_29) rfl ((if0 _ _).trans (teq (hb506 : x0 = (0 : Int32))).1) (by decide) (by decide) ?_
      show GO p e below T502 (mkF m 34 #[.val (.ref a1), .val (.int 0)] []) _
      refine XS.iinc X502.here hx rfl (hb hby d4_34) rfl (l' := #[.val (.ref a1), .val (.int ((0 : Int32) + (1 : Int32)))]) rfl ?_
      rw [show ((0 : Int32) + (1 : Int32)) = (1 : Int32) from by decide]
      show GO p e below T502 (mkF m 37 #[.val (.ref a1), .val (.int 1)] []) _
      refine XS.goto X502.here hx rfl (pc0 := 37) (pc' := 2) rfl (hb hby d4_37) (by decide) (by decide) ?_
      show GO p e below T502 (mkF m 2 #[.val (.ref a1), .val (.int 1)] []) _
      refine XS.iloadN X502.here hx rfl (hb hby d4_2) rfl ?_
      show GO p e below T502 (mkF m 3 #[.val (.ref a1), .val (.int 1)] [(.int 1)]) _
      refine XS.aloadN X502.here hx rfl (hb hby d4_3) rfl rfl ?_
      show GO p e below T502 (mkF m 4 #[.val (.ref a1), .val (.int 1)] [(.ref a1), (.int 1)]) _
      refine st507 _ ?_
      show GO p e below T507 (mkF m 7 #[.val (.ref a1), .val (.int 1)] [(.int 3), (.int 1)]) _
      refine XS.icmpNo X507.here hx rfl (hb hby d4_7) rfl (tlt ((by decide) : (1 : Int32) < (3 : Int32))).2.1 ?_
      show GO p e below T507 (mkF m 10 #[.val (.ref a1), .val (.int 1)] []) _
      refine XS.aloadN X507.here hx rfl (hb hby d4_10) rfl rfl ?_
      show GO p e below T507 (mkF m 11 #[.val (.ref a1), .val (.int 1)] [(.ref a1)]) _
      refine st508 _ ?_
      show GO p e below T508 (mkF m 14 #[.val (.ref a1), .val (.int 1)] [(.ref t3)]) _
      refine XS.aloadN X508.here hx rfl (hb hby d4_14) rfl rfl ?_
      show GO p e below T508 (mkF m 15 #[.val (.ref a1), .val (.int 1)] [(.ref a1), (.ref t3)]) _
      refine st509 _ ?_
      show GO p e below T509 (mkF m 18 #[.val (.ref a1), .val (.int 1)] [(.int 0), (.ref t3)]) _
      refine XS.iloadN X509.here hx rfl (hb hby d4_18) rfl ?_
      show GO p e below T509 (mkF m 19 #[.val (.ref a1), .val (.int 1)] [(.int 1), (.int 0), (.ref t3)]) _
      refine XS.iadd X509.here hx rfl (hb hby d4_19) rfl ?_
      rw [show ((0 : Int32) + (1 : Int32)) = (1 : Int32) from by decide]
      show GO p e below T509 (mkF m 20 #[.val (.ref a1), .val (.int 1)] [(.int 1), (.ref t3)]) _
      refine XS.aloadN X509.here hx rfl (hb hby d4_20) rfl rfl ?_
      show GO p e below T509 (mkF m 21 #[.val (.ref a1), .val (.int 1)] [(.ref a1), (.int 1), (.ref t3)]) _
      refine st510 _ ?_
      show GO p e below T510 (mkF m 24 #[.val (.ref a1), .val (.int 1)] [(.ref t3), (.int 1), (.ref t3)]) _
      refine X510.arraylength hx (by rw [e510]; exact Ar511.1) (State.isArrayOf_alike hZ.alike Ar511.2.1) (g := (mkF m 24 #[.val (.ref a1), .val (.int 1)] [(.ref t3), (.int 1), (.ref t3)])) rfl rfl (hb hby d4_24) _ ?_
      rw [len_of S511 M511]
      show GO p e below T510 (mkF m 25 #[.val (.ref a1), .val (.int 1)] [(.int 8), (.int 1), (.ref t3)]) _
      refine XS.iconst X510.here hx rfl (hb hby d4_25) ?_
      show GO p e below T510 (mkF m 26 #[.val (.ref a1), .val (.int 1)] [(.int 1), (.int 8), (.int 1), (.ref t3)]) _
      refine XS.isub X510.here hx rfl (hb hby d4_26) rfl ?_
      rw [show ((8 : Int32) - (1 : Int32)) = (7 : Int32) from by decide]
      show GO p e below T510 (mkF m 27 #[.val (.ref a1), .val (.int 1)] [(.int 7), (.int 1), (.ref t3)]) _
      refine XS.iand X510.here hx rfl (hb hby d4_27) rfl ?_
      rw [show ((1 : Int32) &&& (7 : Int32)) = (1 : Int32) from by decide]
      show GO p e below T510 (mkF m 28 #[.val (.ref a1), .val (.int 1)] [(.int 1), (.ref t3)]) _
      refine X510.baloadBooleans hx (j := (1 : Int32)) (v := (.int x1)) (by rw [e510]; exact Ar512.1) (State.isArrayOf_alike hZ.alike Ar512.2.1) Ar512.2.2 hin512 hat512 (g := (mkF m 28 #[.val (.ref a1), .val (.int 1)] [(.int 1), (.ref t3)])) rfl rfl (hb hby d4_28) _ ?_
      exact kt
    by_cases hb514 : x1 = (0 : Int32)
    · obtain ⟨T515, X515, e515, st515⟩ := getF X510 hx hZ hown (host := "") (Or.inl (wd hw 30 rfl)) Via.refl e510 Fs (g := (mkF m 4 #[.val (.ref a1), .val (.int 2)] [(.ref a1), (.int 2)])) rfl rfl (hb hby d4_4)
      obtain ⟨T516, X516, e516, st516⟩ := getF X515 hx hZ hown (host := "") (Or.inl (wd hw 23 rfl)) Via.refl e515 F3 (g := (mkF m 11 #[.val (.ref a1), .val (.int 2)] [(.ref a1)])) rfl rfl (hb hby d4_11)
      obtain ⟨T517, X517, e517, st517⟩ := getF X516 hx hZ hown (host := "") (Or.inl (wd hw 37 rfl)) Via.refl e516 Fh (g := (mkF m 15 #[.val (.ref a1), .val (.int 2)] [(.ref a1), (.ref t3)])) rfl rfl (hb hby d4_15)
      obtain ⟨T518, X518, e518, st518⟩ := getF X517 hx hZ hown (host := "") (Or.inl (wd hw 23 rfl)) Via.refl e517 F3 (g := (mkF m 21 #[.val (.ref a1), .val (.int 2)] [(.ref a1), (.int 2), (.ref t3)])) rfl rfl (hb hby d4_21)
      obtain ⟨cl519, Ar519, -, S519, M519, -, -⟩ := id V3
      obtain ⟨cl520, Ar520, q520, S520, M520, H520, G520⟩ := id V3
      have hin520 : ¬ ((2 : Int32) < 0 ∨ cl520.slots.size ≤ ((2 : Int32)).toNatClampNeg) := inb_of S520 ⟨by decide, by decide⟩
      have hat520 : cl520.slots[((2 : Int32)).toNatClampNeg]? = some (.int x2) := Has.at H520 hin520 hx2
      have pre521 : ∀ t, Steps p.tables e below (T518.setTop (mkF m 29 #[.val (.ref a1), .val (.int 2)] [(.int x2)])) t → Steps p.tables e below (s₁.setTop (entryFrame m #[(.ref a1)] 2)) t := by
        intro t kt
        refine pre513 t ?_
        show GO p e below T510 (mkF m 29 #[.val (.ref a1), .val (.int 1)] [(.int x1)]) _
        refine XS.ifYes X510.here hx rfl (pc0 := 29) (pc' := 34) rfl (hb hby d4_29) rfl ((if0 _ _).trans (teq (hb514 : x1 = (0 : Int32))).1) (by decide) (by decide) ?_
        show GO p e below T510 (mkF m 34 #[.val (.ref a1), .val (.int 1)] []) _
        refine XS.iinc X510.here hx rfl (hb hby d4_34) rfl (l' := #[.val (.ref a1), .val (.int ((1 : Int32) + (1 : Int32)))]) rfl ?_
        rw [show ((1 : Int32) + (1 : Int32)) = (2 : Int32) from by decide]
        show GO p e below T510 (mkF m 37 #[.val (.ref a1), .val (.int 2)] []) _
        refine XS.goto X510.here hx rfl (pc0 := 37) (pc' := 2) rfl (hb hby d4_37) (by decide) (by decide) ?_
        show GO p e below T510 (mkF m 2 #[.val (.ref a1), .val (.int 2)] []) _
        refine XS.iloadN X510.here hx rfl (hb hby d4_2) rfl ?_
        show GO p e below T510 (mkF m 3 #[.val (.ref a1), .val (.int 2)] [(.int 2)]) _
        refine XS.aloadN X510.here hx rfl (hb hby d4_3) rfl rfl ?_
        show GO p e below T510 (mkF m 4 #[.val (.ref a1), .val (.int 2)] [(.ref a1), (.int 2)]) _
        refine st515 _ ?_
        show GO p e below T515 (mkF m 7 #[.val (.ref a1), .val (.int 2)] [(.int 3), (.int 2)]) _
        refine XS.icmpNo X515.here hx rfl (hb hby d4_7) rfl (tlt ((by decide) : (2 : Int32) < (3 : Int32))).2.1 ?_
        show GO p e below T515 (mkF m 10 #[.val (.ref a1), .val (.int 2)] []) _
        refine XS.aloadN X515.here hx rfl (hb hby d4_10) rfl rfl ?_
        show GO p e below T515 (mkF m 11 #[.val (.ref a1), .val (.int 2)] [(.ref a1)]) _
        refine st516 _ ?_
        show GO p e below T516 (mkF m 14 #[.val (.ref a1), .val (.int 2)] [(.ref t3)]) _
        refine XS.aloadN X516.here hx rfl (hb hby d4_14) rfl rfl ?_
        show GO p e below T516 (mkF m 15 #[.val (.ref a1), .val (.int 2)] [(.ref a1), (.ref t3)]) _
        refine st517 _ ?_
        show GO p e below T517 (mkF m 18 #[.val (.ref a1), .val (.int 2)] [(.int 0), (.ref t3)]) _
        refine XS.iloadN X517.here hx rfl (hb hby d4_18) rfl ?_
        show GO p e below T517 (mkF m 19 #[.val (.ref a1), .val (.int 2)] [(.int 2), (.int 0), (.ref t3)]) _
        refine XS.iadd X517.here hx rfl (hb hby d4_19) rfl ?_
        rw [show ((0 : Int32) + (2 : Int32)) = (2 : Int32) from by decide]
        show GO p e below T517 (mkF m 20 #[.val (.ref a1), .val (.int 2)] [(.int 2), (.ref t3)]) _
        refine XS.aloadN X517.here hx rfl (hb hby d4_20) rfl rfl ?_
        show GO p e below T517 (mkF m 21 #[.val (.ref a1), .val (.int 2)] [(.ref a1), (.int 2), (.ref t3)]) _
        refine st518 _ ?_
        show GO p e below T518 (mkF m 24 #[.val (.ref a1), .val (.int 2)] [(.ref t3), (.int 2), (.ref t3)]) _
        refine X518.arraylength hx (by rw [e518]; exact Ar519.1) (State.isArrayOf_alike hZ.alike Ar519.2.1) (g := (mkF m 24 #[.val (.ref a1), .val (.int 2)] [(.ref t3), (.int 2), (.ref t3)])) rfl rfl (hb hby d4_24) _ ?_
        rw [len_of S519 M519]
        show GO p e below T518 (mkF m 25 #[.val (.ref a1), .val (.int 2)] [(.int 8), (.int 2), (.ref t3)]) _
        refine XS.iconst X518.here hx rfl (hb hby d4_25) ?_
        show GO p e below T518 (mkF m 26 #[.val (.ref a1), .val (.int 2)] [(.int 1), (.int 8), (.int 2), (.ref t3)]) _
        refine XS.isub X518.here hx rfl (hb hby d4_26) rfl ?_
        rw [show ((8 : Int32) - (1 : Int32)) = (7 : Int32) from by decide]
        show GO p e below T518 (mkF m 27 #[.val (.ref a1), .val (.int 2)] [(.int 7), (.int 2), (.ref t3)]) _
        refine XS.iand X518.here hx rfl (hb hby d4_27) rfl ?_
        rw [show ((2 : Int32) &&& (7 : Int32)) = (2 : Int32) from by decide]
        show GO p e below T518 (mkF m 28 #[.val (.ref a1), .val (.int 2)] [(.int 2), (.ref t3)]) _
        refine X518.baloadBooleans hx (j := (2 : Int32)) (v := (.int x2)) (by rw [e518]; exact Ar520.1) (State.isArrayOf_alike hZ.alike Ar520.2.1) Ar520.2.2 hin520 hat520 (g := (mkF m 28 #[.val (.ref a1), .val (.int 2)] [(.int 2), (.ref t3)])) rfl rfl (hb hby d4_28) _ ?_
        exact kt
      by_cases hb522 : x2 = (0 : Int32)
      · obtain ⟨T523, X523, e523, st523⟩ := getF X518 hx hZ hown (host := "") (Or.inl (wd hw 30 rfl)) Via.refl e518 Fs (g := (mkF m 4 #[.val (.ref a1), .val (.int 3)] [(.ref a1), (.int 3)])) rfl rfl (hb hby d4_4)
        obtain ⟨fs, hr, hrun, hended, hW, hsame⟩ := X523.leave (v := some (.int 0)) (fun h => by rw [Bd.returns] at h; cases h)
        refine ⟨_, _, pre521 _ ?_, hrun, hended, _, _, rfl, ?_, ⟨_, rfl⟩, hW, hsame.mono (by decide) (by decide)⟩
        · show GO p e below T518 (mkF m 29 #[.val (.ref a1), .val (.int 2)] [(.int x2)]) _
          refine XS.ifYes X518.here hx rfl (pc0 := 29) (pc' := 34) rfl (hb hby d4_29) rfl ((if0 _ _).trans (teq (hb522 : x2 = (0 : Int32))).1) (by decide) (by decide) ?_
          show GO p e below T518 (mkF m 34 #[.val (.ref a1), .val (.int 2)] []) _
          refine XS.iinc X518.here hx rfl (hb hby d4_34) rfl (l' := #[.val (.ref a1), .val (.int ((2 : Int32) + (1 : Int32)))]) rfl ?_
          rw [show ((2 : Int32) + (1 : Int32)) = (3 : Int32) from by decide]
          show GO p e below T518 (mkF m 37 #[.val (.ref a1), .val (.int 3)] []) _
          refine XS.goto X518.here hx rfl (pc0 := 37) (pc' := 2) rfl (hb hby d4_37) (by decide) (by decide) ?_
          show GO p e below T518 (mkF m 2 #[.val (.ref a1), .val (.int 3)] []) _
          refine XS.iloadN X518.here hx rfl (hb hby d4_2) rfl ?_
          show GO p e below T518 (mkF m 3 #[.val (.ref a1), .val (.int 3)] [(.int 3)]) _
          refine XS.aloadN X518.here hx rfl (hb hby d4_3) rfl rfl ?_
          show GO p e below T518 (mkF m 4 #[.val (.ref a1), .val (.int 3)] [(.ref a1), (.int 3)]) _
          refine st523 _ ?_
          show GO p e below T523 (mkF m 7 #[.val (.ref a1), .val (.int 3)] [(.int 3), (.int 3)]) _
          refine XS.icmpYes X523.here hx rfl (pc0 := 7) (pc' := 40) rfl (hb hby d4_7) rfl (flt ((by decide) : ¬ ((3 : Int32) < (3 : Int32)))).2.1 (by decide) (by decide) ?_
          show GO p e below T523 (mkF m 40 #[.val (.ref a1), .val (.int 3)] []) _
          refine XS.iconst X523.here hx rfl (hb hby d4_40) ?_
          show GO p e below T523 (mkF m 41 #[.val (.ref a1), .val (.int 3)] [(.int 0)]) _
          exact retN X523 hx (t := .boolean) Bd.returns (by simp) (hb hby d4_41) hr
        · show Qrm_hold0_3 Z a1 t3 k3 vR x0 x1 x2 h0 n0 _ T523.heap _
          rw [e523]
          exact ⟨(by simp [own_any, hb506, hb514, hb522]), N0, rfl⟩
      · obtain ⟨fs, hr, hrun, hended, hW, hsame⟩ := X518.leave (v := some (.int 1)) (fun h => by rw [Bd.returns] at h; cases h)
        refine ⟨_, _, pre521 _ ?_, hrun, hended, _, _, rfl, ?_, ⟨_, rfl⟩, hW, hsame.mono (by decide) (by decide)⟩
        · show GO p e below T518 (mkF m 29 #[.val (.ref a1), .val (.int 2)] [(.int x2)]) _
          refine XS.ifNo X518.here hx rfl (hb hby d4_29) rfl ((if0 _ _).trans (feq (hb522 : ¬ (x2 = (0 : Int32)))).1) ?_
          show GO p e below T518 (mkF m 32 #[.val (.ref a1), .val (.int 2)] []) _
          refine XS.iconst X518.here hx rfl (hb hby d4_32) ?_
          show GO p e below T518 (mkF m 33 #[.val (.ref a1), .val (.int 2)] [(.int 1)]) _
          exact retN X518 hx (t := .boolean) Bd.returns (by simp) (hb hby d4_33) hr
        · show Qrm_hold0_3 Z a1 t3 k3 vR x0 x1 x2 h0 n0 _ T518.heap _
          rw [e518]
          exact ⟨(by simp [own_any, hb506, hb514, hb522]), N0, rfl⟩
    · obtain ⟨fs, hr, hrun, hended, hW, hsame⟩ := X510.leave (v := some (.int 1)) (fun h => by rw [Bd.returns] at h; cases h)
      refine ⟨_, _, pre513 _ ?_, hrun, hended, _, _, rfl, ?_, ⟨_, rfl⟩, hW, hsame.mono (by decide) (by decide)⟩
      · show GO p e below T510 (mkF m 29 #[.val (.ref a1), .val (.int 1)] [(.int x1)]) _
        refine XS.ifNo X510.here hx rfl (hb hby d4_29) rfl ((if0 _ _).trans (feq (hb514 : ¬ (x1 = (0 : Int32)))).1) ?_
        show GO p e below T510 (mkF m 32 #[.val (.ref a1), .val (.int 1)] []) _
        refine XS.iconst X510.here hx rfl (hb hby d4_32) ?_
        show GO p e below T510 (mkF m 33 #[.val (.ref a1), .val (.int 1)] [(.int 1)]) _
        exact retN X510 hx (t := .boolean) Bd.returns (by simp) (hb hby d4_33) hr
      · show Qrm_hold0_3 Z a1 t3 k3 vR x0 x1 x2 h0 n0 _ T510.heap _
        rw [e510]
        exact ⟨(by simp [own_any, hb506, hb514]), N0, rfl⟩
  · obtain ⟨fs, hr, hrun, hended, hW, hsame⟩ := X502.leave (v := some (.int 1)) (fun h => by rw [Bd.returns] at h; cases h)
    refine ⟨_, _, pre505 _ ?_, hrun, hended, _, _, rfl, ?_, ⟨_, rfl⟩, hW, hsame.mono (by decide) (by decide)⟩
    · show GO p e below T502 (mkF m 29 #[.val (.ref a1), .val (.int 0)] [(.int x0)]) _
      refine XS.ifNo X502.here hx rfl (hb hby d4_29) rfl ((if0 _ _).trans (feq (hb506 : ¬ (x0 = (0 : Int32)))).1) ?_
      show GO p e below T502 (mkF m 32 #[.val (.ref a1), .val (.int 0)] []) _
      refine XS.iconst X502.here hx rfl (hb hby d4_32) ?_
      show GO p e below T502 (mkF m 33 #[.val (.ref a1), .val (.int 0)] [(.int 1)]) _
      exact retN X502 hx (t := .boolean) Bd.returns (by simp) (hb hby d4_33) hr
    · show Qrm_hold0_3 Z a1 t3 k3 vR x0 x1 x2 h0 n0 _ T502.heap _
      rw [e502]
      exact ⟨(by simp [own_any, hb506]), N0, rfl⟩
def Qrm_hold0_4 (Z : State) (a1 : Addr) (t3 : Addr) (k3 : ClassId) (vR : List Value) (x0 : Int32) (x1 : Int32) (x2 : Int32) (x3 : Int32) (h0 : Heap) (n0 : Nat) (v : Option Value) (h : Heap) (L : List Loc) : Prop := v = some (.int (own_any [x0, x1, x2, x3])) ∧ Fr n0 L ∧ h = h0
theorem ef_rm_hold0_4 (m : MethodId) (x0 : Addr) : entryFrame m #[(.ref x0)] 2 = mkF m 0 #[.val (.ref x0), .unset] [] := by first | rfl | (simp [entryFrame, mkF, argsToLocals, Value.category]; done)
set_option maxRecDepth 65536 in
set_option maxHeartbeats 40000000 in
theorem rm_hold0_4 (l : Launch) (Z : State) (a0 : Array Value) (hw : ∀ d ∈ tables_1, d.before a0 Z = true) (ws : List Jvm.Cond) (a1 : Addr) (t3 : Addr) (k3 : ClassId) (vR : List Value) (x0 : Int32) (x1 : Int32) (x2 : Int32) (x3 : Int32) (h0 : Heap) (n0 : Nat) (Z0 : n0 ≤ h0.size) (Fh : Fld Z h0 a1 kS0 "head" "I" (.int 0)) (Fs : Fld Z h0 a1 kS0 "size" "I" (.int 4)) (F3 : Fld Z h0 a1 kS0 "rears" "[Z" (.ref t3)) (V3 : Arv Z h0 t3 k3 .boolean (8 : Int32) vR (.int 0)) (hx0 : vR.getD ((0 : Int32)).toNatClampNeg (.int 0) = (.int x0)) (hx1 : vR.getD ((1 : Int32)).toNatClampNeg (.int 0) = (.int x1)) (hx2 : vR.getD ((2 : Int32)).toNatClampNeg (.int 0) = (.int x2)) (hx3 : vR.getD ((3 : Int32)).toNatClampNeg (.int 0) = (.int x3)) :
    MetFree l (⟨kS0, "holdsRear", "()Z"⟩ : MethodName) (head1 (Jvm.Cond.code (⟨kS0, "holdsRear", "()Z"⟩ : MethodName) prog_14_method_10_code 2 (some .boolean) :: ws) ({ frames := 0, cells := 0, slots := 0, locals := 0 } : Room)) (fun a U => a = #[(.ref a1)] ∧ Z.Warmed39 U.vm ∧ U.heap = h0) (fun _ _ _ _ _ => True) (fun _ U o U' => ∃ v L, o = .returned v ∧ Qrm_hold0_4 Z a1 t3 k3 vR x0 x1 x2 x3 h0 n0 v U'.heap L ∧ FrameEnd U o U' L ({ frames := 0, cells := 0, slots := 0, locals := 0 } : Room).cells ({ frames := 0, cells := 0, slots := 0, locals := 0 } : Room).slots) := by
  refine MetFree.of_bodySF (plainFor_of_name pn_0) hisR ?_
  intro p e s m args below meth c s₁ Bd hml0 hP hK
  obtain ⟨rfl, hZ, hh⟩ := hP
  have hx := Bd.exec
  have hby := Bd.bytes
  have hml : c.maxLocals = 2 := hml0
  have hown : s.vm.findClass kS0 = some m.cls := findClass_of_methodNamed Bd.named
  have hnm := (name_of_methodNamed Bd.named Bd.method).1
  have X0 : Stand p l e ({ frames := 0, cells := 0, slots := 0, locals := 0 } : Room) s m #[(.ref a1)] below meth c s₁ [] 0 0 := Stand.of_body Bd
  have e0 : s₁.heap = h0 := by rw [← hh, Bd.state]; rfl
  have N0 := Fr.nil n0
  have pre0 : ∀ t, Steps p.tables e below (s₁.setTop (mkF m 0 #[.val (.ref a1), .unset] [])) t → Steps p.tables e below (s₁.setTop (entryFrame m #[(.ref a1)] 2)) t := fun t k => castTop (ef_rm_hold0_4 m a1) k
  have lt_Fh := ltA Fh.lt
  have lt_Fs := ltA Fs.lt
  have lt_F3 := ltA F3.lt
  have lt_V3 := ltA V3.lt
  obtain ⟨T524, X524, e524, st524⟩ := getF X0 hx hZ hown (host := "") (Or.inl (wd hw 30 rfl)) Via.refl e0 Fs (g := (mkF m 4 #[.val (.ref a1), .val (.int 0)] [(.ref a1), (.int 0)])) rfl rfl (hb hby d4_4)
  obtain ⟨T525, X525, e525, st525⟩ := getF X524 hx hZ hown (host := "") (Or.inl (wd hw 23 rfl)) Via.refl e524 F3 (g := (mkF m 11 #[.val (.ref a1), .val (.int 0)] [(.ref a1)])) rfl rfl (hb hby d4_11)
  obtain ⟨T526, X526, e526, st526⟩ := getF X525 hx hZ hown (host := "") (Or.inl (wd hw 37 rfl)) Via.refl e525 Fh (g := (mkF m 15 #[.val (.ref a1), .val (.int 0)] [(.ref a1), (.ref t3)])) rfl rfl (hb hby d4_15)
  obtain ⟨T527, X527, e527, st527⟩ := getF X526 hx hZ hown (host := "") (Or.inl (wd hw 23 rfl)) Via.refl e526 F3 (g := (mkF m 21 #[.val (.ref a1), .val (.int 0)] [(.ref a1), (.int 0), (.ref t3)])) rfl rfl (hb hby d4_21)
  obtain ⟨cl528, Ar528, -, S528, M528, -, -⟩ := id V3
  obtain ⟨cl529, Ar529, q529, S529, M529, H529, G529⟩ := id V3
  have hin529 : ¬ ((0 : Int32) < 0 ∨ cl529.slots.size ≤ ((0 : Int32)).toNatClampNeg) := inb_of S529 ⟨by decide, by decide⟩
  have hat529 : cl529.slots[((0 : Int32)).toNatClampNeg]? = some (.int x0) := Has.at H529 hin529 hx0
  have pre530 : ∀ t, Steps p.tables e below (T527.setTop (mkF m 29 #[.val (.ref a1), .val (.int 0)] [(.int x0)])) t → Steps p.tables e below (s₁.setTop (entryFrame m #[(.ref a1)] 2)) t := by
    intro t kt
    refine pre0 t ?_
    show GO p e below s₁ (mkF m 0 #[.val (.ref a1), .unset] []) _
    refine XS.iconst X0.here hx rfl (hb hby d4_0) ?_
    show GO p e below s₁ (mkF m 1 #[.val (.ref a1), .unset] [(.int 0)]) _
    refine XS.istoreN X0.here hx rfl (hb hby d4_1) rfl (l' := #[.val (.ref a1), .val (.int 0)]) rfl ?_
    show GO p e below s₁ (mkF m 2 #[.val (.ref a1), .val (.int 0)] []) _
    refine XS.iloadN X0.here hx rfl (hb hby d4_2) rfl ?_
    show GO p e below s₁ (mkF m 3 #[.val (.ref a1), .val (.int 0)] [(.int 0)]) _
    refine XS.aloadN X0.here hx rfl (hb hby d4_3) rfl rfl ?_
    show GO p e below s₁ (mkF m 4 #[.val (.ref a1), .val (.int 0)] [(.ref a1), (.int 0)]) _
    refine st524 _ ?_
    show GO p e below T524 (mkF m 7 #[.val (.ref a1), .val (.int 0)] [(.int 4), (.int 0)]) _
    refine XS.icmpNo X524.here hx rfl (hb hby d4_7) rfl (tlt ((by decide) : (0 : Int32) < (4 : Int32))).2.1 ?_
    show GO p e below T524 (mkF m 10 #[.val (.ref a1), .val (.int 0)] []) _
    refine XS.aloadN X524.here hx rfl (hb hby d4_10) rfl rfl ?_
    show GO p e below T524 (mkF m 11 #[.val (.ref a1), .val (.int 0)] [(.ref a1)]) _
    refine st525 _ ?_
    show GO p e below T525 (mkF m 14 #[.val (.ref a1), .val (.int 0)] [(.ref t3)]) _
    refine XS.aloadN X525.here hx rfl (hb hby d4_14) rfl rfl ?_
    show GO p e below T525 (mkF m 15 #[.val (.ref a1), .val (.int 0)] [(.ref a1), (.ref t3)]) _
    refine st526 _ ?_
    show GO p e below T526 (mkF m 18 #[.val (.ref a1), .val (.int 0)] [(.int 0), (.ref t3)]) _
    refine XS.iloadN X526.here hx rfl (hb hby d4_18) rfl ?_
    show GO p e below T526 (mkF m 19 #[.val (.ref a1), .val (.int 0)] [(.int 0), (.int 0), (.ref t3)]) _
    refine XS.iadd X526.here hx rfl (hb hby d4_19) rfl ?_
    rw [show ((0 : Int32) + (0 : Int32)) = (0 : Int32) from by decide]
    show GO p e below T526 (mkF m 20 #[.val (.ref a1), .val (.int 0)] [(.int 0), (.ref t3)]) _
    refine XS.aloadN X526.here hx rfl (hb hby d4_20) rfl rfl ?_
    show GO p e below T526 (mkF m 21 #[.val (.ref a1), .val (.int 0)] [(.ref a1), (.int 0), (.ref t3)]) _
    refine st527 _ ?_
    show GO p e below T527 (mkF m 24 #[.val (.ref a1), .val (.int 0)] [(.ref t3), (.int 0), (.ref t3)]) _
    refine X527.arraylength hx (by rw [e527]; exact Ar528.1) (State.isArrayOf_alike hZ.alike Ar528.2.1) (g := (mkF m 24 #[.val (.ref a1), .val (.int 0)] [(.ref t3), (.int 0), (.ref t3)])) rfl rfl (hb hby d4_24) _ ?_
    rw [len_of S528 M528]
    show GO p e below T527 (mkF m 25 #[.val (.ref a1), .val (.int 0)] [(.int 8), (.int 0), (.ref t3)]) _
    refine XS.iconst X527.here hx rfl (hb hby d4_25) ?_
    show GO p e below T527 (mkF m 26 #[.val (.ref a1), .val (.int 0)] [(.int 1), (.int 8), (.int 0), (.ref t3)]) _
    refine XS.isub X527.here hx rfl (hb hby d4_26) rfl ?_
    rw [show ((8 : Int32) - (1 : Int32)) = (7 : Int32) from by decide]
    show GO p e below T527 (mkF m 27 #[.val (.ref a1), .val (.int 0)] [(.int 7), (.int 0), (.ref t3)]) _
    refine XS.iand X527.here hx rfl (hb hby d4_27) rfl ?_
    rw [show ((0 : Int32) &&& (7 : Int32)) = (0 : Int32) from by decide]
    show GO p e below T527 (mkF m 28 #[.val (.ref a1), .val (.int 0)] [(.int 0), (.ref t3)]) _
    refine X527.baloadBooleans hx (j := (0 : Int32)) (v := (.int x0)) (by rw [e527]; exact Ar529.1) (State.isArrayOf_alike hZ.alike Ar529.2.1) Ar529.2.2 hin529 hat529 (g := (mkF m 28 #[.val (.ref a1), .val (.int 0)] [(.int 0), (.ref t3)])) rfl rfl (hb hby d4_28) _ ?_
    exact kt
  by_cases hb531 : x0 = (0 : Int32)
  · obtain ⟨T532, X532, e532, st532⟩ := getF X527 hx hZ hown (host := "") (Or.inl (wd hw 30 rfl)) Via.refl e527 Fs (g := (mkF m 4 #[.val (.ref a1), .val (.int 1)] [(.ref a1), (.int 1)])) rfl rfl (hb hby d4_4)
    obtain ⟨T533, X533, e533, st533⟩ := getF X532 hx hZ hown (host := "") (Or.inl (wd hw 23 rfl)) Via.refl e532 F3 (g := (mkF m 11 #[.val (.ref a1), .val (.int 1)] [(.ref a1)])) rfl rfl (hb hby d4_11)
    obtain ⟨T534, X534, e534, st534⟩ := getF X533 hx hZ hown (host := "") (Or.inl (wd hw 37 rfl)) Via.refl e533 Fh (g := (mkF m 15 #[.val (.ref a1), .val (.int 1)] [(.ref a1), (.ref t3)])) rfl rfl (hb hby d4_15)
    obtain ⟨T535, X535, e535, st535⟩ := getF X534 hx hZ hown (host := "") (Or.inl (wd hw 23 rfl)) Via.refl e534 F3 (g := (mkF m 21 #[.val (.ref a1), .val (.int 1)] [(.ref a1), (.int 1), (.ref t3)])) rfl rfl (hb hby d4_21)
    obtain ⟨cl536, Ar536, -, S536, M536, -, -⟩ := id V3
    obtain ⟨cl537, Ar537, q537, S537, M537, H537, G537⟩ := id V3
    have hin537 : ¬ ((1 : Int32) < 0 ∨ cl537.slots.size ≤ ((1 : Int32)).toNatClampNeg) := inb_of S537 ⟨by decide, by decide⟩
    have hat537 : cl537.slots[((1 : Int32)).toNatClampNeg]? = some (.int x1) := Has.at H537 hin537 hx1
    have pre538 : ∀ t, Steps p.tables e below (T535.setTop (mkF m 29 #[.val (.ref a1), .val (.int 1)] [(.int x1)])) t → Steps p.tables e below (s₁.setTop (entryFrame m #[(.ref a1)] 2)) t := by
      intro t kt
      refine pre530 t ?_
      show GO p e below T527 (mkF m 29 #[.val (.ref a1), .val (.int 0)] [(.int x0)]) _
      refine XS.ifYes X527.here hx rfl (pc0 := 29) (pc' := 34) rfl (hb hby d4_29) rfl ((if0 _ _).trans (teq (hb531 : x0 = (0 : Int32))).1) (by decide) (by decide) ?_
      show GO p e below T527 (mkF m 34 #[.val (.ref a1), .val (.int 0)] []) _
      refine XS.iinc X527.here hx rfl (hb hby d4_34) rfl (l' := #[.val (.ref a1), .val (.int ((0 : Int32) + (1 : Int32)))]) rfl ?_
      rw [show ((0 : Int32) + (1 : Int32)) = (1 : Int32) from by decide]
      show GO p e below T527 (mkF m 37 #[.val (.ref a1), .val (.int 1)] []) _
      refine XS.goto X527.here hx rfl (pc0 := 37) (pc' := 2) rfl (hb hby d4_37) (by decide) (by decide) ?_
      show GO p e below T527 (mkF m 2 #[.val (.ref a1), .val (.int 1)] []) _
      refine XS.iloadN X527.here hx rfl (hb hby d4_2) rfl ?_
      show GO p e below T527 (mkF m 3 #[.val (.ref a1), .val (.int 1)] [(.int 1)]) _
      refine XS.aloadN X527.here hx rfl (hb hby d4_3) rfl rfl ?_
      show GO p e below T527 (mkF m 4 #[.val (.ref a1), .val (.int 1)] [(.ref a1), (.int 1)]) _
      refine st532 _ ?_
      show GO p e below T532 (mkF m 7 #[.val (.ref a1), .val (.int 1)] [(.int 4), (.int 1)]) _
      refine XS.icmpNo X532.here hx rfl (hb hby d4_7) rfl (tlt ((by decide) : (1 : Int32) < (4 : Int32))).2.1 ?_
      show GO p e below T532 (mkF m 10 #[.val (.ref a1), .val (.int 1)] []) _
      refine XS.aloadN X532.here hx rfl (hb hby d4_10) rfl rfl ?_
      show GO p e below T532 (mkF m 11 #[.val (.ref a1), .val (.int 1)] [(.ref a1)]) _
      refine st533 _ ?_
      show GO p e below T533 (mkF m 14 #[.val (.ref a1), .val (.int 1)] [(.ref t3)]) _
      refine XS.aloadN X533.here hx rfl (hb hby d4_14) rfl rfl ?_
      show GO p e below T533 (mkF m 15 #[.val (.ref a1), .val (.int 1)] [(.ref a1), (.ref t3)]) _
      refine st534 _ ?_
      show GO p e below T534 (mkF m 18 #[.val (.ref a1), .val (.int 1)] [(.int 0), (.ref t3)]) _
      refine XS.iloadN X534.here hx rfl (hb hby d4_18) rfl ?_
      show GO p e below T534 (mkF m 19 #[.val (.ref a1), .val (.int 1)] [(.int 1), (.int 0), (.ref t3)]) _
      refine XS.iadd X534.here hx rfl (hb hby d4_19) rfl ?_
      rw [show ((0 : Int32) + (1 : Int32)) = (1 : Int32) from by decide]
      show GO p e below T534 (mkF m 20 #[.val (.ref a1), .val (.int 1)] [(.int 1), (.ref t3)]) _
      refine XS.aloadN X534.here hx rfl (hb hby d4_20) rfl rfl ?_
      show GO p e below T534 (mkF m 21 #[.val (.ref a1), .val (.int 1)] [(.ref a1), (.int 1), (.ref t3)]) _
      refine st535 _ ?_
      show GO p e below T535 (mkF m 24 #[.val (.ref a1), .val (.int 1)] [(.ref t3), (.int 1), (.ref t3)]) _
      refine X535.arraylength hx (by rw [e535]; exact Ar536.1) (State.isArrayOf_alike hZ.alike Ar536.2.1) (g := (mkF m 24 #[.val (.ref a1), .val (.int 1)] [(.ref t3), (.int 1), (.ref t3)])) rfl rfl (hb hby d4_24) _ ?_
      rw [len_of S536 M536]
      show GO p e below T535 (mkF m 25 #[.val (.ref a1), .val (.int 1)] [(.int 8), (.int 1), (.ref t3)]) _
      refine XS.iconst X535.here hx rfl (hb hby d4_25) ?_
      show GO p e below T535 (mkF m 26 #[.val (.ref a1), .val (.int 1)] [(.int 1), (.int 8), (.int 1), (.ref t3)]) _
      refine XS.isub X535.here hx rfl (hb hby d4_26) rfl ?_
      rw [show ((8 : Int32) - (1 : Int32)) = (7 : Int32) from by decide]
      show GO p e below T535 (mkF m 27 #[.val (.ref a1), .val (.int 1)] [(.int 7), (.int 1), (.ref t3)]) _
      refine XS.iand X535.here hx rfl (hb hby d4_27) rfl ?_
      rw [show ((1 : Int32) &&& (7 : Int32)) = (1 : Int32) from by decide]
      show GO p e below T535 (mkF m 28 #[.val (.ref a1), .val (.int 1)] [(.int 1), (.ref t3)]) _
      refine X535.baloadBooleans hx (j := (1 : Int32)) (v := (.int x1)) (by rw [e535]; exact Ar537.1) (State.isArrayOf_alike hZ.alike Ar537.2.1) Ar537.2.2 hin537 hat537 (g := (mkF m 28 #[.val (.ref a1), .val (.int 1)] [(.int 1), (.ref t3)])) rfl rfl (hb hby d4_28) _ ?_
      exact kt
    by_cases hb539 : x1 = (0 : Int32)
    · obtain ⟨T540, X540, e540, st540⟩ := getF X535 hx hZ hown (host := "") (Or.inl (wd hw 30 rfl)) Via.refl e535 Fs (g := (mkF m 4 #[.val (.ref a1), .val (.int 2)] [(.ref a1), (.int 2)])) rfl rfl (hb hby d4_4)
      obtain ⟨T541, X541, e541, st541⟩ := getF X540 hx hZ hown (host := "") (Or.inl (wd hw 23 rfl)) Via.refl e540 F3 (g := (mkF m 11 #[.val (.ref a1), .val (.int 2)] [(.ref a1)])) rfl rfl (hb hby d4_11)
      obtain ⟨T542, X542, e542, st542⟩ := getF X541 hx hZ hown (host := "") (Or.inl (wd hw 37 rfl)) Via.refl e541 Fh (g := (mkF m 15 #[.val (.ref a1), .val (.int 2)] [(.ref a1), (.ref t3)])) rfl rfl (hb hby d4_15)
      obtain ⟨T543, X543, e543, st543⟩ := getF X542 hx hZ hown (host := "") (Or.inl (wd hw 23 rfl)) Via.refl e542 F3 (g := (mkF m 21 #[.val (.ref a1), .val (.int 2)] [(.ref a1), (.int 2), (.ref t3)])) rfl rfl (hb hby d4_21)
      obtain ⟨cl544, Ar544, -, S544, M544, -, -⟩ := id V3
      obtain ⟨cl545, Ar545, q545, S545, M545, H545, G545⟩ := id V3
      have hin545 : ¬ ((2 : Int32) < 0 ∨ cl545.slots.size ≤ ((2 : Int32)).toNatClampNeg) := inb_of S545 ⟨by decide, by decide⟩
      have hat545 : cl545.slots[((2 : Int32)).toNatClampNeg]? = some (.int x2) := Has.at H545 hin545 hx2
      have pre546 : ∀ t, Steps p.tables e below (T543.setTop (mkF m 29 #[.val (.ref a1), .val (.int 2)] [(.int x2)])) t → Steps p.tables e below (s₁.setTop (entryFrame m #[(.ref a1)] 2)) t := by
        intro t kt
        refine pre538 t ?_
        show GO p e below T535 (mkF m 29 #[.val (.ref a1), .val (.int 1)] [(.int x1)]) _
        refine XS.ifYes X535.here hx rfl (pc0 := 29) (pc' := 34) rfl (hb hby d4_29) rfl ((if0 _ _).trans (teq (hb539 : x1 = (0 : Int32))).1) (by decide) (by decide) ?_
        show GO p e below T535 (mkF m 34 #[.val (.ref a1), .val (.int 1)] []) _
        refine XS.iinc X535.here hx rfl (hb hby d4_34) rfl (l' := #[.val (.ref a1), .val (.int ((1 : Int32) + (1 : Int32)))]) rfl ?_
        rw [show ((1 : Int32) + (1 : Int32)) = (2 : Int32) from by decide]
        show GO p e below T535 (mkF m 37 #[.val (.ref a1), .val (.int 2)] []) _
        refine XS.goto X535.here hx rfl (pc0 := 37) (pc' := 2) rfl (hb hby d4_37) (by decide) (by decide) ?_
        show GO p e below T535 (mkF m 2 #[.val (.ref a1), .val (.int 2)] []) _
        refine XS.iloadN X535.here hx rfl (hb hby d4_2) rfl ?_
        show GO p e below T535 (mkF m 3 #[.val (.ref a1), .val (.int 2)] [(.int 2)]) _
        refine XS.aloadN X535.here hx rfl (hb hby d4_3) rfl rfl ?_
        show GO p e below T535 (mkF m 4 #[.val (.ref a1), .val (.int 2)] [(.ref a1), (.int 2)]) _
        refine st540 _ ?_
        show GO p e below T540 (mkF m 7 #[.val (.ref a1), .val (.int 2)] [(.int 4), (.int 2)]) _
        refine XS.icmpNo X540.here hx rfl (hb hby d4_7) rfl (tlt ((by decide) : (2 : Int32) < (4 : Int32))).2.1 ?_
        show GO p e below T540 (mkF m 10 #[.val (.ref a1), .val (.int 2)] []) _
        refine XS.aloadN X540.here hx rfl (hb hby d4_10) rfl rfl ?_
        show GO p e below T540 (mkF m 11 #[.val (.ref a1), .val (.int 2)] [(.ref a1)]) _
        refine st541 _ ?_
        show GO p e below T541 (mkF m 14 #[.val (.ref a1), .val (.int 2)] [(.ref t3)]) _
        refine XS.aloadN X541.here hx rfl (hb hby d4_14) rfl rfl ?_
        show GO p e below T541 (mkF m 15 #[.val (.ref a1), .val (.int 2)] [(.ref a1), (.ref t3)]) _
        refine st542 _ ?_
        show GO p e below T542 (mkF m 18 #[.val (.ref a1), .val (.int 2)] [(.int 0), (.ref t3)]) _
        refine XS.iloadN X542.here hx rfl (hb hby d4_18) rfl ?_
        show GO p e below T542 (mkF m 19 #[.val (.ref a1), .val (.int 2)] [(.int 2), (.int 0), (.ref t3)]) _
        refine XS.iadd X542.here hx rfl (hb hby d4_19) rfl ?_
        rw [show ((0 : Int32) + (2 : Int32)) = (2 : Int32) from by decide]
        show GO p e below T542 (mkF m 20 #[.val (.ref a1), .val (.int 2)] [(.int 2), (.ref t3)]) _
        refine XS.aloadN X542.here hx rfl (hb hby d4_20) rfl rfl ?_
        show GO p e below T542 (mkF m 21 #[.val (.ref a1), .val (.int 2)] [(.ref a1), (.int 2), (.ref t3)]) _
        refine st543 _ ?_
        show GO p e below T543 (mkF m 24 #[.val (.ref a1), .val (.int 2)] [(.ref t3), (.int 2), (.ref t3)]) _
        refine X543.arraylength hx (by rw [e543]; exact Ar544.1) (State.isArrayOf_alike hZ.alike Ar544.2.1) (g := (mkF m 24 #[.val (.ref a1), .val (.int 2)] [(.ref t3), (.int 2), (.ref t3)])) rfl rfl (hb hby d4_24) _ ?_
        rw [len_of S544 M544]
        show GO p e below T543 (mkF m 25 #[.val (.ref a1), .val (.int 2)] [(.int 8), (.int 2), (.ref t3)]) _
        refine XS.iconst X543.here hx rfl (hb hby d4_25) ?_
        show GO p e below T543 (mkF m 26 #[.val (.ref a1), .val (.int 2)] [(.int 1), (.int 8), (.int 2), (.ref t3)]) _
        refine XS.isub X543.here hx rfl (hb hby d4_26) rfl ?_
        rw [show ((8 : Int32) - (1 : Int32)) = (7 : Int32) from by decide]
        show GO p e below T543 (mkF m 27 #[.val (.ref a1), .val (.int 2)] [(.int 7), (.int 2), (.ref t3)]) _
        refine XS.iand X543.here hx rfl (hb hby d4_27) rfl ?_
        rw [show ((2 : Int32) &&& (7 : Int32)) = (2 : Int32) from by decide]
        show GO p e below T543 (mkF m 28 #[.val (.ref a1), .val (.int 2)] [(.int 2), (.ref t3)]) _
        refine X543.baloadBooleans hx (j := (2 : Int32)) (v := (.int x2)) (by rw [e543]; exact Ar545.1) (State.isArrayOf_alike hZ.alike Ar545.2.1) Ar545.2.2 hin545 hat545 (g := (mkF m 28 #[.val (.ref a1), .val (.int 2)] [(.int 2), (.ref t3)])) rfl rfl (hb hby d4_28) _ ?_
        exact kt
      by_cases hb547 : x2 = (0 : Int32)
      · obtain ⟨T548, X548, e548, st548⟩ := getF X543 hx hZ hown (host := "") (Or.inl (wd hw 30 rfl)) Via.refl e543 Fs (g := (mkF m 4 #[.val (.ref a1), .val (.int 3)] [(.ref a1), (.int 3)])) rfl rfl (hb hby d4_4)
        obtain ⟨T549, X549, e549, st549⟩ := getF X548 hx hZ hown (host := "") (Or.inl (wd hw 23 rfl)) Via.refl e548 F3 (g := (mkF m 11 #[.val (.ref a1), .val (.int 3)] [(.ref a1)])) rfl rfl (hb hby d4_11)
        obtain ⟨T550, X550, e550, st550⟩ := getF X549 hx hZ hown (host := "") (Or.inl (wd hw 37 rfl)) Via.refl e549 Fh (g := (mkF m 15 #[.val (.ref a1), .val (.int 3)] [(.ref a1), (.ref t3)])) rfl rfl (hb hby d4_15)
        obtain ⟨T551, X551, e551, st551⟩ := getF X550 hx hZ hown (host := "") (Or.inl (wd hw 23 rfl)) Via.refl e550 F3 (g := (mkF m 21 #[.val (.ref a1), .val (.int 3)] [(.ref a1), (.int 3), (.ref t3)])) rfl rfl (hb hby d4_21)
        obtain ⟨cl552, Ar552, -, S552, M552, -, -⟩ := id V3
        obtain ⟨cl553, Ar553, q553, S553, M553, H553, G553⟩ := id V3
        have hin553 : ¬ ((3 : Int32) < 0 ∨ cl553.slots.size ≤ ((3 : Int32)).toNatClampNeg) := inb_of S553 ⟨by decide, by decide⟩
        have hat553 : cl553.slots[((3 : Int32)).toNatClampNeg]? = some (.int x3) := Has.at H553 hin553 hx3
        have pre554 : ∀ t, Steps p.tables e below (T551.setTop (mkF m 29 #[.val (.ref a1), .val (.int 3)] [(.int x3)])) t → Steps p.tables e below (s₁.setTop (entryFrame m #[(.ref a1)] 2)) t := by
          intro t kt
          refine pre546 t ?_
          show GO p e below T543 (mkF m 29 #[.val (.ref a1), .val (.int 2)] [(.int x2)]) _
          refine XS.ifYes X543.here hx rfl (pc0 := 29) (pc' := 34) rfl (hb hby d4_29) rfl ((if0 _ _).trans (teq (hb547 : x2 = (0 : Int32))).1) (by decide) (by decide) ?_
          show GO p e below T543 (mkF m 34 #[.val (.ref a1), .val (.int 2)] []) _
          refine XS.iinc X543.here hx rfl (hb hby d4_34) rfl (l' := #[.val (.ref a1), .val (.int ((2 : Int32) + (1 : Int32)))]) rfl ?_
          rw [show ((2 : Int32) + (1 : Int32)) = (3 : Int32) from by decide]
          show GO p e below T543 (mkF m 37 #[.val (.ref a1), .val (.int 3)] []) _
          refine XS.goto X543.here hx rfl (pc0 := 37) (pc' := 2) rfl (hb hby d4_37) (by decide) (by decide) ?_
          show GO p e below T543 (mkF m 2 #[.val (.ref a1), .val (.int 3)] []) _
          refine XS.iloadN X543.here hx rfl (hb hby d4_2) rfl ?_
          show GO p e below T543 (mkF m 3 #[.val (.ref a1), .val (.int 3)] [(.int 3)]) _
          refine XS.aloadN X543.here hx rfl (hb hby d4_3) rfl rfl ?_
          show GO p e below T543 (mkF m 4 #[.val (.ref a1), .val (.int 3)] [(.ref a1), (.int 3)]) _
          refine st548 _ ?_
          show GO p e below T548 (mkF m 7 #[.val (.ref a1), .val (.int 3)] [(.int 4), (.int 3)]) _
          refine XS.icmpNo X548.here hx rfl (hb hby d4_7) rfl (tlt ((by decide) : (3 : Int32) < (4 : Int32))).2.1 ?_
          show GO p e below T548 (mkF m 10 #[.val (.ref a1), .val (.int 3)] []) _
          refine XS.aloadN X548.here hx rfl (hb hby d4_10) rfl rfl ?_
          show GO p e below T548 (mkF m 11 #[.val (.ref a1), .val (.int 3)] [(.ref a1)]) _
          refine st549 _ ?_
          show GO p e below T549 (mkF m 14 #[.val (.ref a1), .val (.int 3)] [(.ref t3)]) _
          refine XS.aloadN X549.here hx rfl (hb hby d4_14) rfl rfl ?_
          show GO p e below T549 (mkF m 15 #[.val (.ref a1), .val (.int 3)] [(.ref a1), (.ref t3)]) _
          refine st550 _ ?_
          show GO p e below T550 (mkF m 18 #[.val (.ref a1), .val (.int 3)] [(.int 0), (.ref t3)]) _
          refine XS.iloadN X550.here hx rfl (hb hby d4_18) rfl ?_
          show GO p e below T550 (mkF m 19 #[.val (.ref a1), .val (.int 3)] [(.int 3), (.int 0), (.ref t3)]) _
          refine XS.iadd X550.here hx rfl (hb hby d4_19) rfl ?_
          rw [show ((0 : Int32) + (3 : Int32)) = (3 : Int32) from by decide]
          show GO p e below T550 (mkF m 20 #[.val (.ref a1), .val (.int 3)] [(.int 3), (.ref t3)]) _
          refine XS.aloadN X550.here hx rfl (hb hby d4_20) rfl rfl ?_
          show GO p e below T550 (mkF m 21 #[.val (.ref a1), .val (.int 3)] [(.ref a1), (.int 3), (.ref t3)]) _
          refine st551 _ ?_
          show GO p e below T551 (mkF m 24 #[.val (.ref a1), .val (.int 3)] [(.ref t3), (.int 3), (.ref t3)]) _
          refine X551.arraylength hx (by rw [e551]; exact Ar552.1) (State.isArrayOf_alike hZ.alike Ar552.2.1) (g := (mkF m 24 #[.val (.ref a1), .val (.int 3)] [(.ref t3), (.int 3), (.ref t3)])) rfl rfl (hb hby d4_24) _ ?_
          rw [len_of S552 M552]
          show GO p e below T551 (mkF m 25 #[.val (.ref a1), .val (.int 3)] [(.int 8), (.int 3), (.ref t3)]) _
          refine XS.iconst X551.here hx rfl (hb hby d4_25) ?_
          show GO p e below T551 (mkF m 26 #[.val (.ref a1), .val (.int 3)] [(.int 1), (.int 8), (.int 3), (.ref t3)]) _
          refine XS.isub X551.here hx rfl (hb hby d4_26) rfl ?_
          rw [show ((8 : Int32) - (1 : Int32)) = (7 : Int32) from by decide]
          show GO p e below T551 (mkF m 27 #[.val (.ref a1), .val (.int 3)] [(.int 7), (.int 3), (.ref t3)]) _
          refine XS.iand X551.here hx rfl (hb hby d4_27) rfl ?_
          rw [show ((3 : Int32) &&& (7 : Int32)) = (3 : Int32) from by decide]
          show GO p e below T551 (mkF m 28 #[.val (.ref a1), .val (.int 3)] [(.int 3), (.ref t3)]) _
          refine X551.baloadBooleans hx (j := (3 : Int32)) (v := (.int x3)) (by rw [e551]; exact Ar553.1) (State.isArrayOf_alike hZ.alike Ar553.2.1) Ar553.2.2 hin553 hat553 (g := (mkF m 28 #[.val (.ref a1), .val (.int 3)] [(.int 3), (.ref t3)])) rfl rfl (hb hby d4_28) _ ?_
          exact kt
        by_cases hb555 : x3 = (0 : Int32)
        · obtain ⟨T556, X556, e556, st556⟩ := getF X551 hx hZ hown (host := "") (Or.inl (wd hw 30 rfl)) Via.refl e551 Fs (g := (mkF m 4 #[.val (.ref a1), .val (.int 4)] [(.ref a1), (.int 4)])) rfl rfl (hb hby d4_4)
          obtain ⟨fs, hr, hrun, hended, hW, hsame⟩ := X556.leave (v := some (.int 0)) (fun h => by rw [Bd.returns] at h; cases h)
          refine ⟨_, _, pre554 _ ?_, hrun, hended, _, _, rfl, ?_, ⟨_, rfl⟩, hW, hsame.mono (by decide) (by decide)⟩
          · show GO p e below T551 (mkF m 29 #[.val (.ref a1), .val (.int 3)] [(.int x3)]) _
            refine XS.ifYes X551.here hx rfl (pc0 := 29) (pc' := 34) rfl (hb hby d4_29) rfl ((if0 _ _).trans (teq (hb555 : x3 = (0 : Int32))).1) (by decide) (by decide) ?_
            show GO p e below T551 (mkF m 34 #[.val (.ref a1), .val (.int 3)] []) _
            refine XS.iinc X551.here hx rfl (hb hby d4_34) rfl (l' := #[.val (.ref a1), .val (.int ((3 : Int32) + (1 : Int32)))]) rfl ?_
            rw [show ((3 : Int32) + (1 : Int32)) = (4 : Int32) from by decide]
            show GO p e below T551 (mkF m 37 #[.val (.ref a1), .val (.int 4)] []) _
            refine XS.goto X551.here hx rfl (pc0 := 37) (pc' := 2) rfl (hb hby d4_37) (by decide) (by decide) ?_
            show GO p e below T551 (mkF m 2 #[.val (.ref a1), .val (.int 4)] []) _
            refine XS.iloadN X551.here hx rfl (hb hby d4_2) rfl ?_
            show GO p e below T551 (mkF m 3 #[.val (.ref a1), .val (.int 4)] [(.int 4)]) _
            refine XS.aloadN X551.here hx rfl (hb hby d4_3) rfl rfl ?_
            show GO p e below T551 (mkF m 4 #[.val (.ref a1), .val (.int 4)] [(.ref a1), (.int 4)]) _
            refine st556 _ ?_
            show GO p e below T556 (mkF m 7 #[.val (.ref a1), .val (.int 4)] [(.int 4), (.int 4)]) _
            refine XS.icmpYes X556.here hx rfl (pc0 := 7) (pc' := 40) rfl (hb hby d4_7) rfl (flt ((by decide) : ¬ ((4 : Int32) < (4 : Int32)))).2.1 (by decide) (by decide) ?_
            show GO p e below T556 (mkF m 40 #[.val (.ref a1), .val (.int 4)] []) _
            refine XS.iconst X556.here hx rfl (hb hby d4_40) ?_
            show GO p e below T556 (mkF m 41 #[.val (.ref a1), .val (.int 4)] [(.int 0)]) _
            exact retN X556 hx (t := .boolean) Bd.returns (by simp) (hb hby d4_41) hr
          · show Qrm_hold0_4 Z a1 t3 k3 vR x0 x1 x2 x3 h0 n0 _ T556.heap _
            rw [e556]
            exact ⟨(by simp [own_any, hb531, hb539, hb547, hb555]), N0, rfl⟩
        · obtain ⟨fs, hr, hrun, hended, hW, hsame⟩ := X551.leave (v := some (.int 1)) (fun h => by rw [Bd.returns] at h; cases h)
          refine ⟨_, _, pre554 _ ?_, hrun, hended, _, _, rfl, ?_, ⟨_, rfl⟩, hW, hsame.mono (by decide) (by decide)⟩
          · show GO p e below T551 (mkF m 29 #[.val (.ref a1), .val (.int 3)] [(.int x3)]) _
            refine XS.ifNo X551.here hx rfl (hb hby d4_29) rfl ((if0 _ _).trans (feq (hb555 : ¬ (x3 = (0 : Int32)))).1) ?_
            show GO p e below T551 (mkF m 32 #[.val (.ref a1), .val (.int 3)] []) _
            refine XS.iconst X551.here hx rfl (hb hby d4_32) ?_
            show GO p e below T551 (mkF m 33 #[.val (.ref a1), .val (.int 3)] [(.int 1)]) _
            exact retN X551 hx (t := .boolean) Bd.returns (by simp) (hb hby d4_33) hr
          · show Qrm_hold0_4 Z a1 t3 k3 vR x0 x1 x2 x3 h0 n0 _ T551.heap _
            rw [e551]
            exact ⟨(by simp [own_any, hb531, hb539, hb547, hb555]), N0, rfl⟩
      · obtain ⟨fs, hr, hrun, hended, hW, hsame⟩ := X543.leave (v := some (.int 1)) (fun h => by rw [Bd.returns] at h; cases h)
        refine ⟨_, _, pre546 _ ?_, hrun, hended, _, _, rfl, ?_, ⟨_, rfl⟩, hW, hsame.mono (by decide) (by decide)⟩
        · show GO p e below T543 (mkF m 29 #[.val (.ref a1), .val (.int 2)] [(.int x2)]) _
          refine XS.ifNo X543.here hx rfl (hb hby d4_29) rfl ((if0 _ _).trans (feq (hb547 : ¬ (x2 = (0 : Int32)))).1) ?_
          show GO p e below T543 (mkF m 32 #[.val (.ref a1), .val (.int 2)] []) _
          refine XS.iconst X543.here hx rfl (hb hby d4_32) ?_
          show GO p e below T543 (mkF m 33 #[.val (.ref a1), .val (.int 2)] [(.int 1)]) _
          exact retN X543 hx (t := .boolean) Bd.returns (by simp) (hb hby d4_33) hr
        · show Qrm_hold0_4 Z a1 t3 k3 vR x0 x1 x2 x3 h0 n0 _ T543.heap _
          rw [e543]
          exact ⟨(by simp [own_any, hb531, hb539, hb547]), N0, rfl⟩
    · obtain ⟨fs, hr, hrun, hended, hW, hsame⟩ := X535.leave (v := some (.int 1)) (fun h => by rw [Bd.returns] at h; cases h)
      refine ⟨_, _, pre538 _ ?_, hrun, hended, _, _, rfl, ?_, ⟨_, rfl⟩, hW, hsame.mono (by decide) (by decide)⟩
      · show GO p e below T535 (mkF m 29 #[.val (.ref a1), .val (.int 1)] [(.int x1)]) _
        refine XS.ifNo X535.here hx rfl (hb hby d4_29) rfl ((if0 _ _).trans (feq (hb539 : ¬ (x1 = (0 : Int32)))).1) ?_
        show GO p e below T535 (mkF m 32 #[.val (.ref a1), .val (.int 1)] []) _
        refine XS.iconst X535.here hx rfl (hb hby d4_32) ?_
        show GO p e below T535 (mkF m 33 #[.val (.ref a1), .val (.int 1)] [(.int 1)]) _
        exact retN X535 hx (t := .boolean) Bd.returns (by simp) (hb hby d4_33) hr
      · show Qrm_hold0_4 Z a1 t3 k3 vR x0 x1 x2 x3 h0 n0 _ T535.heap _
        rw [e535]
        exact ⟨(by simp [own_any, hb531, hb539]), N0, rfl⟩
  · obtain ⟨fs, hr, hrun, hended, hW, hsame⟩ := X527.leave (v := some (.int 1)) (fun h => by rw [Bd.returns] at h; cases h)
    refine ⟨_, _, pre530 _ ?_, hrun, hended, _, _, rfl, ?_, ⟨_, rfl⟩, hW, hsame.mono (by decide) (by decide)⟩
    · show GO p e below T527 (mkF m 29 #[.val (.ref a1), .val (.int 0)] [(.int x0)]) _
      refine XS.ifNo X527.here hx rfl (hb hby d4_29) rfl ((if0 _ _).trans (feq (hb531 : ¬ (x0 = (0 : Int32)))).1) ?_
      show GO p e below T527 (mkF m 32 #[.val (.ref a1), .val (.int 0)] []) _
      refine XS.iconst X527.here hx rfl (hb hby d4_32) ?_
      show GO p e below T527 (mkF m 33 #[.val (.ref a1), .val (.int 0)] [(.int 1)]) _
      exact retN X527 hx (t := .boolean) Bd.returns (by simp) (hb hby d4_33) hr
    · show Qrm_hold0_4 Z a1 t3 k3 vR x0 x1 x2 x3 h0 n0 _ T527.heap _
      rw [e527]
      exact ⟨(by simp [own_any, hb531]), N0, rfl⟩
def Qrm_hold1_0 (Z : State) (a1 : Addr) (t3 : Addr) (k3 : ClassId) (vR : List Value) (h0 : Heap) (n0 : Nat) (v : Option Value) (h : Heap) (L : List Loc) : Prop := v = some (.int (own_any [])) ∧ Fr n0 L ∧ h = h0
theorem ef_rm_hold1_0 (m : MethodId) (x0 : Addr) : entryFrame m #[(.ref x0)] 2 = mkF m 0 #[.val (.ref x0), .unset] [] := by first | rfl | (simp [entryFrame, mkF, argsToLocals, Value.category]; done)
set_option maxRecDepth 65536 in
set_option maxHeartbeats 40000000 in
theorem rm_hold1_0 (l : Launch) (Z : State) (a0 : Array Value) (hw : ∀ d ∈ tables_1, d.before a0 Z = true) (ws : List Jvm.Cond) (a1 : Addr) (t3 : Addr) (k3 : ClassId) (vR : List Value) (h0 : Heap) (n0 : Nat) (Z0 : n0 ≤ h0.size) (Fh : Fld Z h0 a1 kS0 "head" "I" (.int 1)) (Fs : Fld Z h0 a1 kS0 "size" "I" (.int 0)) (F3 : Fld Z h0 a1 kS0 "rears" "[Z" (.ref t3)) (V3 : Arv Z h0 t3 k3 .boolean (8 : Int32) vR (.int 0)) :
    MetFree l (⟨kS0, "holdsRear", "()Z"⟩ : MethodName) (head1 (Jvm.Cond.code (⟨kS0, "holdsRear", "()Z"⟩ : MethodName) prog_14_method_10_code 2 (some .boolean) :: ws) ({ frames := 0, cells := 0, slots := 0, locals := 0 } : Room)) (fun a U => a = #[(.ref a1)] ∧ Z.Warmed39 U.vm ∧ U.heap = h0) (fun _ _ _ _ _ => True) (fun _ U o U' => ∃ v L, o = .returned v ∧ Qrm_hold1_0 Z a1 t3 k3 vR h0 n0 v U'.heap L ∧ FrameEnd U o U' L ({ frames := 0, cells := 0, slots := 0, locals := 0 } : Room).cells ({ frames := 0, cells := 0, slots := 0, locals := 0 } : Room).slots) := by
  refine MetFree.of_bodySF (plainFor_of_name pn_0) hisR ?_
  intro p e s m args below meth c s₁ Bd hml0 hP hK
  obtain ⟨rfl, hZ, hh⟩ := hP
  have hx := Bd.exec
  have hby := Bd.bytes
  have hml : c.maxLocals = 2 := hml0
  have hown : s.vm.findClass kS0 = some m.cls := findClass_of_methodNamed Bd.named
  have hnm := (name_of_methodNamed Bd.named Bd.method).1
  have X0 : Stand p l e ({ frames := 0, cells := 0, slots := 0, locals := 0 } : Room) s m #[(.ref a1)] below meth c s₁ [] 0 0 := Stand.of_body Bd
  have e0 : s₁.heap = h0 := by rw [← hh, Bd.state]; rfl
  have N0 := Fr.nil n0
  have pre0 : ∀ t, Steps p.tables e below (s₁.setTop (mkF m 0 #[.val (.ref a1), .unset] [])) t → Steps p.tables e below (s₁.setTop (entryFrame m #[(.ref a1)] 2)) t := fun t k => castTop (ef_rm_hold1_0 m a1) k
  have lt_Fh := ltA Fh.lt
  have lt_Fs := ltA Fs.lt
  have lt_F3 := ltA F3.lt
  have lt_V3 := ltA V3.lt
  obtain ⟨T557, X557, e557, st557⟩ := getF X0 hx hZ hown (host := "") (Or.inl (wd hw 30 rfl)) Via.refl e0 Fs (g := (mkF m 4 #[.val (.ref a1), .val (.int 0)] [(.ref a1), (.int 0)])) rfl rfl (hb hby d4_4)
  obtain ⟨fs, hr, hrun, hended, hW, hsame⟩ := X557.leave (v := some (.int 0)) (fun h => by rw [Bd.returns] at h; cases h)
  refine ⟨_, _, pre0 _ ?_, hrun, hended, _, _, rfl, ?_, ⟨_, rfl⟩, hW, hsame.mono (by decide) (by decide)⟩
  · show GO p e below s₁ (mkF m 0 #[.val (.ref a1), .unset] []) _
    refine XS.iconst X0.here hx rfl (hb hby d4_0) ?_
    show GO p e below s₁ (mkF m 1 #[.val (.ref a1), .unset] [(.int 0)]) _
    refine XS.istoreN X0.here hx rfl (hb hby d4_1) rfl (l' := #[.val (.ref a1), .val (.int 0)]) rfl ?_
    show GO p e below s₁ (mkF m 2 #[.val (.ref a1), .val (.int 0)] []) _
    refine XS.iloadN X0.here hx rfl (hb hby d4_2) rfl ?_
    show GO p e below s₁ (mkF m 3 #[.val (.ref a1), .val (.int 0)] [(.int 0)]) _
    refine XS.aloadN X0.here hx rfl (hb hby d4_3) rfl rfl ?_
    show GO p e below s₁ (mkF m 4 #[.val (.ref a1), .val (.int 0)] [(.ref a1), (.int 0)]) _
    refine st557 _ ?_
    show GO p e below T557 (mkF m 7 #[.val (.ref a1), .val (.int 0)] [(.int 0), (.int 0)]) _
    refine XS.icmpYes X557.here hx rfl (pc0 := 7) (pc' := 40) rfl (hb hby d4_7) rfl (flt ((by decide) : ¬ ((0 : Int32) < (0 : Int32)))).2.1 (by decide) (by decide) ?_
    show GO p e below T557 (mkF m 40 #[.val (.ref a1), .val (.int 0)] []) _
    refine XS.iconst X557.here hx rfl (hb hby d4_40) ?_
    show GO p e below T557 (mkF m 41 #[.val (.ref a1), .val (.int 0)] [(.int 0)]) _
    exact retN X557 hx (t := .boolean) Bd.returns (by simp) (hb hby d4_41) hr
  · show Qrm_hold1_0 Z a1 t3 k3 vR h0 n0 _ T557.heap _
    rw [e557]
    exact ⟨(by simp [own_any]), N0, rfl⟩
def Qrm_hold1_1 (Z : State) (a1 : Addr) (t3 : Addr) (k3 : ClassId) (vR : List Value) (x0 : Int32) (h0 : Heap) (n0 : Nat) (v : Option Value) (h : Heap) (L : List Loc) : Prop := v = some (.int (own_any [x0])) ∧ Fr n0 L ∧ h = h0
theorem ef_rm_hold1_1 (m : MethodId) (x0 : Addr) : entryFrame m #[(.ref x0)] 2 = mkF m 0 #[.val (.ref x0), .unset] [] := by first | rfl | (simp [entryFrame, mkF, argsToLocals, Value.category]; done)
set_option maxRecDepth 65536 in
set_option maxHeartbeats 40000000 in
theorem rm_hold1_1 (l : Launch) (Z : State) (a0 : Array Value) (hw : ∀ d ∈ tables_1, d.before a0 Z = true) (ws : List Jvm.Cond) (a1 : Addr) (t3 : Addr) (k3 : ClassId) (vR : List Value) (x0 : Int32) (h0 : Heap) (n0 : Nat) (Z0 : n0 ≤ h0.size) (Fh : Fld Z h0 a1 kS0 "head" "I" (.int 1)) (Fs : Fld Z h0 a1 kS0 "size" "I" (.int 1)) (F3 : Fld Z h0 a1 kS0 "rears" "[Z" (.ref t3)) (V3 : Arv Z h0 t3 k3 .boolean (8 : Int32) vR (.int 0)) (hx0 : vR.getD ((1 : Int32)).toNatClampNeg (.int 0) = (.int x0)) :
    MetFree l (⟨kS0, "holdsRear", "()Z"⟩ : MethodName) (head1 (Jvm.Cond.code (⟨kS0, "holdsRear", "()Z"⟩ : MethodName) prog_14_method_10_code 2 (some .boolean) :: ws) ({ frames := 0, cells := 0, slots := 0, locals := 0 } : Room)) (fun a U => a = #[(.ref a1)] ∧ Z.Warmed39 U.vm ∧ U.heap = h0) (fun _ _ _ _ _ => True) (fun _ U o U' => ∃ v L, o = .returned v ∧ Qrm_hold1_1 Z a1 t3 k3 vR x0 h0 n0 v U'.heap L ∧ FrameEnd U o U' L ({ frames := 0, cells := 0, slots := 0, locals := 0 } : Room).cells ({ frames := 0, cells := 0, slots := 0, locals := 0 } : Room).slots) := by
  refine MetFree.of_bodySF (plainFor_of_name pn_0) hisR ?_
  intro p e s m args below meth c s₁ Bd hml0 hP hK
  obtain ⟨rfl, hZ, hh⟩ := hP
  have hx := Bd.exec
  have hby := Bd.bytes
  have hml : c.maxLocals = 2 := hml0
  have hown : s.vm.findClass kS0 = some m.cls := findClass_of_methodNamed Bd.named
  have hnm := (name_of_methodNamed Bd.named Bd.method).1
  have X0 : Stand p l e ({ frames := 0, cells := 0, slots := 0, locals := 0 } : Room) s m #[(.ref a1)] below meth c s₁ [] 0 0 := Stand.of_body Bd
  have e0 : s₁.heap = h0 := by rw [← hh, Bd.state]; rfl
  have N0 := Fr.nil n0
  have pre0 : ∀ t, Steps p.tables e below (s₁.setTop (mkF m 0 #[.val (.ref a1), .unset] [])) t → Steps p.tables e below (s₁.setTop (entryFrame m #[(.ref a1)] 2)) t := fun t k => castTop (ef_rm_hold1_1 m a1) k
  have lt_Fh := ltA Fh.lt
  have lt_Fs := ltA Fs.lt
  have lt_F3 := ltA F3.lt
  have lt_V3 := ltA V3.lt
  obtain ⟨T558, X558, e558, st558⟩ := getF X0 hx hZ hown (host := "") (Or.inl (wd hw 30 rfl)) Via.refl e0 Fs (g := (mkF m 4 #[.val (.ref a1), .val (.int 0)] [(.ref a1), (.int 0)])) rfl rfl (hb hby d4_4)
  obtain ⟨T559, X559, e559, st559⟩ := getF X558 hx hZ hown (host := "") (Or.inl (wd hw 23 rfl)) Via.refl e558 F3 (g := (mkF m 11 #[.val (.ref a1), .val (.int 0)] [(.ref a1)])) rfl rfl (hb hby d4_11)
  obtain ⟨T560, X560, e560, st560⟩ := getF X559 hx hZ hown (host := "") (Or.inl (wd hw 37 rfl)) Via.refl e559 Fh (g := (mkF m 15 #[.val (.ref a1), .val (.int 0)] [(.ref a1), (.ref t3)])) rfl rfl (hb hby d4_15)
  obtain ⟨T561, X561, e561, st561⟩ := getF X560 hx hZ hown (host := "") (Or.inl (wd hw 23 rfl)) Via.refl e560 F3 (g := (mkF m 21 #[.val (.ref a1), .val (.int 0)] [(.ref a1), (.int 1), (.ref t3)])) rfl rfl (hb hby d4_21)
  obtain ⟨cl562, Ar562, -, S562, M562, -, -⟩ := id V3
  obtain ⟨cl563, Ar563, q563, S563, M563, H563, G563⟩ := id V3
  have hin563 : ¬ ((1 : Int32) < 0 ∨ cl563.slots.size ≤ ((1 : Int32)).toNatClampNeg) := inb_of S563 ⟨by decide, by decide⟩
  have hat563 : cl563.slots[((1 : Int32)).toNatClampNeg]? = some (.int x0) := Has.at H563 hin563 hx0
  have pre564 : ∀ t, Steps p.tables e below (T561.setTop (mkF m 29 #[.val (.ref a1), .val (.int 0)] [(.int x0)])) t → Steps p.tables e below (s₁.setTop (entryFrame m #[(.ref a1)] 2)) t := by
    intro t kt
    refine pre0 t ?_
    show GO p e below s₁ (mkF m 0 #[.val (.ref a1), .unset] []) _
    refine XS.iconst X0.here hx rfl (hb hby d4_0) ?_
    show GO p e below s₁ (mkF m 1 #[.val (.ref a1), .unset] [(.int 0)]) _
    refine XS.istoreN X0.here hx rfl (hb hby d4_1) rfl (l' := #[.val (.ref a1), .val (.int 0)]) rfl ?_
    show GO p e below s₁ (mkF m 2 #[.val (.ref a1), .val (.int 0)] []) _
    refine XS.iloadN X0.here hx rfl (hb hby d4_2) rfl ?_
    show GO p e below s₁ (mkF m 3 #[.val (.ref a1), .val (.int 0)] [(.int 0)]) _
    refine XS.aloadN X0.here hx rfl (hb hby d4_3) rfl rfl ?_
    show GO p e below s₁ (mkF m 4 #[.val (.ref a1), .val (.int 0)] [(.ref a1), (.int 0)]) _
    refine st558 _ ?_
    show GO p e below T558 (mkF m 7 #[.val (.ref a1), .val (.int 0)] [(.int 1), (.int 0)]) _
    refine XS.icmpNo X558.here hx rfl (hb hby d4_7) rfl (tlt ((by decide) : (0 : Int32) < (1 : Int32))).2.1 ?_
    show GO p e below T558 (mkF m 10 #[.val (.ref a1), .val (.int 0)] []) _
    refine XS.aloadN X558.here hx rfl (hb hby d4_10) rfl rfl ?_
    show GO p e below T558 (mkF m 11 #[.val (.ref a1), .val (.int 0)] [(.ref a1)]) _
    refine st559 _ ?_
    show GO p e below T559 (mkF m 14 #[.val (.ref a1), .val (.int 0)] [(.ref t3)]) _
    refine XS.aloadN X559.here hx rfl (hb hby d4_14) rfl rfl ?_
    show GO p e below T559 (mkF m 15 #[.val (.ref a1), .val (.int 0)] [(.ref a1), (.ref t3)]) _
    refine st560 _ ?_
    show GO p e below T560 (mkF m 18 #[.val (.ref a1), .val (.int 0)] [(.int 1), (.ref t3)]) _
    refine XS.iloadN X560.here hx rfl (hb hby d4_18) rfl ?_
    show GO p e below T560 (mkF m 19 #[.val (.ref a1), .val (.int 0)] [(.int 0), (.int 1), (.ref t3)]) _
    refine XS.iadd X560.here hx rfl (hb hby d4_19) rfl ?_
    rw [show ((1 : Int32) + (0 : Int32)) = (1 : Int32) from by decide]
    show GO p e below T560 (mkF m 20 #[.val (.ref a1), .val (.int 0)] [(.int 1), (.ref t3)]) _
    refine XS.aloadN X560.here hx rfl (hb hby d4_20) rfl rfl ?_
    show GO p e below T560 (mkF m 21 #[.val (.ref a1), .val (.int 0)] [(.ref a1), (.int 1), (.ref t3)]) _
    refine st561 _ ?_
    show GO p e below T561 (mkF m 24 #[.val (.ref a1), .val (.int 0)] [(.ref t3), (.int 1), (.ref t3)]) _
    refine X561.arraylength hx (by rw [e561]; exact Ar562.1) (State.isArrayOf_alike hZ.alike Ar562.2.1) (g := (mkF m 24 #[.val (.ref a1), .val (.int 0)] [(.ref t3), (.int 1), (.ref t3)])) rfl rfl (hb hby d4_24) _ ?_
    rw [len_of S562 M562]
    show GO p e below T561 (mkF m 25 #[.val (.ref a1), .val (.int 0)] [(.int 8), (.int 1), (.ref t3)]) _
    refine XS.iconst X561.here hx rfl (hb hby d4_25) ?_
    show GO p e below T561 (mkF m 26 #[.val (.ref a1), .val (.int 0)] [(.int 1), (.int 8), (.int 1), (.ref t3)]) _
    refine XS.isub X561.here hx rfl (hb hby d4_26) rfl ?_
    rw [show ((8 : Int32) - (1 : Int32)) = (7 : Int32) from by decide]
    show GO p e below T561 (mkF m 27 #[.val (.ref a1), .val (.int 0)] [(.int 7), (.int 1), (.ref t3)]) _
    refine XS.iand X561.here hx rfl (hb hby d4_27) rfl ?_
    rw [show ((1 : Int32) &&& (7 : Int32)) = (1 : Int32) from by decide]
    show GO p e below T561 (mkF m 28 #[.val (.ref a1), .val (.int 0)] [(.int 1), (.ref t3)]) _
    refine X561.baloadBooleans hx (j := (1 : Int32)) (v := (.int x0)) (by rw [e561]; exact Ar563.1) (State.isArrayOf_alike hZ.alike Ar563.2.1) Ar563.2.2 hin563 hat563 (g := (mkF m 28 #[.val (.ref a1), .val (.int 0)] [(.int 1), (.ref t3)])) rfl rfl (hb hby d4_28) _ ?_
    exact kt
  by_cases hb565 : x0 = (0 : Int32)
  · obtain ⟨T566, X566, e566, st566⟩ := getF X561 hx hZ hown (host := "") (Or.inl (wd hw 30 rfl)) Via.refl e561 Fs (g := (mkF m 4 #[.val (.ref a1), .val (.int 1)] [(.ref a1), (.int 1)])) rfl rfl (hb hby d4_4)
    obtain ⟨fs, hr, hrun, hended, hW, hsame⟩ := X566.leave (v := some (.int 0)) (fun h => by rw [Bd.returns] at h; cases h)
    refine ⟨_, _, pre564 _ ?_, hrun, hended, _, _, rfl, ?_, ⟨_, rfl⟩, hW, hsame.mono (by decide) (by decide)⟩
    · show GO p e below T561 (mkF m 29 #[.val (.ref a1), .val (.int 0)] [(.int x0)]) _
      refine XS.ifYes X561.here hx rfl (pc0 := 29) (pc' := 34) rfl (hb hby d4_29) rfl ((if0 _ _).trans (teq (hb565 : x0 = (0 : Int32))).1) (by decide) (by decide) ?_
      show GO p e below T561 (mkF m 34 #[.val (.ref a1), .val (.int 0)] []) _
      refine XS.iinc X561.here hx rfl (hb hby d4_34) rfl (l' := #[.val (.ref a1), .val (.int ((0 : Int32) + (1 : Int32)))]) rfl ?_
      rw [show ((0 : Int32) + (1 : Int32)) = (1 : Int32) from by decide]
      show GO p e below T561 (mkF m 37 #[.val (.ref a1), .val (.int 1)] []) _
      refine XS.goto X561.here hx rfl (pc0 := 37) (pc' := 2) rfl (hb hby d4_37) (by decide) (by decide) ?_
      show GO p e below T561 (mkF m 2 #[.val (.ref a1), .val (.int 1)] []) _
      refine XS.iloadN X561.here hx rfl (hb hby d4_2) rfl ?_
      show GO p e below T561 (mkF m 3 #[.val (.ref a1), .val (.int 1)] [(.int 1)]) _
      refine XS.aloadN X561.here hx rfl (hb hby d4_3) rfl rfl ?_
      show GO p e below T561 (mkF m 4 #[.val (.ref a1), .val (.int 1)] [(.ref a1), (.int 1)]) _
      refine st566 _ ?_
      show GO p e below T566 (mkF m 7 #[.val (.ref a1), .val (.int 1)] [(.int 1), (.int 1)]) _
      refine XS.icmpYes X566.here hx rfl (pc0 := 7) (pc' := 40) rfl (hb hby d4_7) rfl (flt ((by decide) : ¬ ((1 : Int32) < (1 : Int32)))).2.1 (by decide) (by decide) ?_
      show GO p e below T566 (mkF m 40 #[.val (.ref a1), .val (.int 1)] []) _
      refine XS.iconst X566.here hx rfl (hb hby d4_40) ?_
      show GO p e below T566 (mkF m 41 #[.val (.ref a1), .val (.int 1)] [(.int 0)]) _
      exact retN X566 hx (t := .boolean) Bd.returns (by simp) (hb hby d4_41) hr
    · show Qrm_hold1_1 Z a1 t3 k3 vR x0 h0 n0 _ T566.heap _
      rw [e566]
      exact ⟨(by simp [own_any, hb565]), N0, rfl⟩
  · obtain ⟨fs, hr, hrun, hended, hW, hsame⟩ := X561.leave (v := some (.int 1)) (fun h => by rw [Bd.returns] at h; cases h)
    refine ⟨_, _, pre564 _ ?_, hrun, hended, _, _, rfl, ?_, ⟨_, rfl⟩, hW, hsame.mono (by decide) (by decide)⟩
    · show GO p e below T561 (mkF m 29 #[.val (.ref a1), .val (.int 0)] [(.int x0)]) _
      refine XS.ifNo X561.here hx rfl (hb hby d4_29) rfl ((if0 _ _).trans (feq (hb565 : ¬ (x0 = (0 : Int32)))).1) ?_
      show GO p e below T561 (mkF m 32 #[.val (.ref a1), .val (.int 0)] []) _
      refine XS.iconst X561.here hx rfl (hb hby d4_32) ?_
      show GO p e below T561 (mkF m 33 #[.val (.ref a1), .val (.int 0)] [(.int 1)]) _
      exact retN X561 hx (t := .boolean) Bd.returns (by simp) (hb hby d4_33) hr
    · show Qrm_hold1_1 Z a1 t3 k3 vR x0 h0 n0 _ T561.heap _
      rw [e561]
      exact ⟨(by simp [own_any, hb565]), N0, rfl⟩
def Qrm_hold1_2 (Z : State) (a1 : Addr) (t3 : Addr) (k3 : ClassId) (vR : List Value) (x0 : Int32) (x1 : Int32) (h0 : Heap) (n0 : Nat) (v : Option Value) (h : Heap) (L : List Loc) : Prop := v = some (.int (own_any [x0, x1])) ∧ Fr n0 L ∧ h = h0
theorem ef_rm_hold1_2 (m : MethodId) (x0 : Addr) : entryFrame m #[(.ref x0)] 2 = mkF m 0 #[.val (.ref x0), .unset] [] := by first | rfl | (simp [entryFrame, mkF, argsToLocals, Value.category]; done)
set_option maxRecDepth 65536 in
set_option maxHeartbeats 40000000 in
theorem rm_hold1_2 (l : Launch) (Z : State) (a0 : Array Value) (hw : ∀ d ∈ tables_1, d.before a0 Z = true) (ws : List Jvm.Cond) (a1 : Addr) (t3 : Addr) (k3 : ClassId) (vR : List Value) (x0 : Int32) (x1 : Int32) (h0 : Heap) (n0 : Nat) (Z0 : n0 ≤ h0.size) (Fh : Fld Z h0 a1 kS0 "head" "I" (.int 1)) (Fs : Fld Z h0 a1 kS0 "size" "I" (.int 2)) (F3 : Fld Z h0 a1 kS0 "rears" "[Z" (.ref t3)) (V3 : Arv Z h0 t3 k3 .boolean (8 : Int32) vR (.int 0)) (hx0 : vR.getD ((1 : Int32)).toNatClampNeg (.int 0) = (.int x0)) (hx1 : vR.getD ((2 : Int32)).toNatClampNeg (.int 0) = (.int x1)) :
    MetFree l (⟨kS0, "holdsRear", "()Z"⟩ : MethodName) (head1 (Jvm.Cond.code (⟨kS0, "holdsRear", "()Z"⟩ : MethodName) prog_14_method_10_code 2 (some .boolean) :: ws) ({ frames := 0, cells := 0, slots := 0, locals := 0 } : Room)) (fun a U => a = #[(.ref a1)] ∧ Z.Warmed39 U.vm ∧ U.heap = h0) (fun _ _ _ _ _ => True) (fun _ U o U' => ∃ v L, o = .returned v ∧ Qrm_hold1_2 Z a1 t3 k3 vR x0 x1 h0 n0 v U'.heap L ∧ FrameEnd U o U' L ({ frames := 0, cells := 0, slots := 0, locals := 0 } : Room).cells ({ frames := 0, cells := 0, slots := 0, locals := 0 } : Room).slots) := by
  refine MetFree.of_bodySF (plainFor_of_name pn_0) hisR ?_
  intro p e s m args below meth c s₁ Bd hml0 hP hK
  obtain ⟨rfl, hZ, hh⟩ := hP
  have hx := Bd.exec
  have hby := Bd.bytes
  have hml : c.maxLocals = 2 := hml0
  have hown : s.vm.findClass kS0 = some m.cls := findClass_of_methodNamed Bd.named
  have hnm := (name_of_methodNamed Bd.named Bd.method).1
  have X0 : Stand p l e ({ frames := 0, cells := 0, slots := 0, locals := 0 } : Room) s m #[(.ref a1)] below meth c s₁ [] 0 0 := Stand.of_body Bd
  have e0 : s₁.heap = h0 := by rw [← hh, Bd.state]; rfl
  have N0 := Fr.nil n0
  have pre0 : ∀ t, Steps p.tables e below (s₁.setTop (mkF m 0 #[.val (.ref a1), .unset] [])) t → Steps p.tables e below (s₁.setTop (entryFrame m #[(.ref a1)] 2)) t := fun t k => castTop (ef_rm_hold1_2 m a1) k
  have lt_Fh := ltA Fh.lt
  have lt_Fs := ltA Fs.lt
  have lt_F3 := ltA F3.lt
  have lt_V3 := ltA V3.lt
  obtain ⟨T567, X567, e567, st567⟩ := getF X0 hx hZ hown (host := "") (Or.inl (wd hw 30 rfl)) Via.refl e0 Fs (g := (mkF m 4 #[.val (.ref a1), .val (.int 0)] [(.ref a1), (.int 0)])) rfl rfl (hb hby d4_4)
  obtain ⟨T568, X568, e568, st568⟩ := getF X567 hx hZ hown (host := "") (Or.inl (wd hw 23 rfl)) Via.refl e567 F3 (g := (mkF m 11 #[.val (.ref a1), .val (.int 0)] [(.ref a1)])) rfl rfl (hb hby d4_11)
  obtain ⟨T569, X569, e569, st569⟩ := getF X568 hx hZ hown (host := "") (Or.inl (wd hw 37 rfl)) Via.refl e568 Fh (g := (mkF m 15 #[.val (.ref a1), .val (.int 0)] [(.ref a1), (.ref t3)])) rfl rfl (hb hby d4_15)
  obtain ⟨T570, X570, e570, st570⟩ := getF X569 hx hZ hown (host := "") (Or.inl (wd hw 23 rfl)) Via.refl e569 F3 (g := (mkF m 21 #[.val (.ref a1), .val (.int 0)] [(.ref a1), (.int 1), (.ref t3)])) rfl rfl (hb hby d4_21)
  obtain ⟨cl571, Ar571, -, S571, M571, -, -⟩ := id V3
  obtain ⟨cl572, Ar572, q572, S572, M572, H572, G572⟩ := id V3
  have hin572 : ¬ ((1 : Int32) < 0 ∨ cl572.slots.size ≤ ((1 : Int32)).toNatClampNeg) := inb_of S572 ⟨by decide, by decide⟩
  have hat572 : cl572.slots[((1 : Int32)).toNatClampNeg]? = some (.int x0) := Has.at H572 hin572 hx0
  have pre573 : ∀ t, Steps p.tables e below (T570.setTop (mkF m 29 #[.val (.ref a1), .val (.int 0)] [(.int x0)])) t → Steps p.tables e below (s₁.setTop (entryFrame m #[(.ref a1)] 2)) t := by
    intro t kt
    refine pre0 t ?_
    show GO p e below s₁ (mkF m 0 #[.val (.ref a1), .unset] []) _
    refine XS.iconst X0.here hx rfl (hb hby d4_0) ?_
    show GO p e below s₁ (mkF m 1 #[.val (.ref a1), .unset] [(.int 0)]) _
    refine XS.istoreN X0.here hx rfl (hb hby d4_1) rfl (l' := #[.val (.ref a1), .val (.int 0)]) rfl ?_
    show GO p e below s₁ (mkF m 2 #[.val (.ref a1), .val (.int 0)] []) _
    refine XS.iloadN X0.here hx rfl (hb hby d4_2) rfl ?_
    show GO p e below s₁ (mkF m 3 #[.val (.ref a1), .val (.int 0)] [(.int 0)]) _
    refine XS.aloadN X0.here hx rfl (hb hby d4_3) rfl rfl ?_
    show GO p e below s₁ (mkF m 4 #[.val (.ref a1), .val (.int 0)] [(.ref a1), (.int 0)]) _
    refine st567 _ ?_
    show GO p e below T567 (mkF m 7 #[.val (.ref a1), .val (.int 0)] [(.int 2), (.int 0)]) _
    refine XS.icmpNo X567.here hx rfl (hb hby d4_7) rfl (tlt ((by decide) : (0 : Int32) < (2 : Int32))).2.1 ?_
    show GO p e below T567 (mkF m 10 #[.val (.ref a1), .val (.int 0)] []) _
    refine XS.aloadN X567.here hx rfl (hb hby d4_10) rfl rfl ?_
    show GO p e below T567 (mkF m 11 #[.val (.ref a1), .val (.int 0)] [(.ref a1)]) _
    refine st568 _ ?_
    show GO p e below T568 (mkF m 14 #[.val (.ref a1), .val (.int 0)] [(.ref t3)]) _
    refine XS.aloadN X568.here hx rfl (hb hby d4_14) rfl rfl ?_
    show GO p e below T568 (mkF m 15 #[.val (.ref a1), .val (.int 0)] [(.ref a1), (.ref t3)]) _
    refine st569 _ ?_
    show GO p e below T569 (mkF m 18 #[.val (.ref a1), .val (.int 0)] [(.int 1), (.ref t3)]) _
    refine XS.iloadN X569.here hx rfl (hb hby d4_18) rfl ?_
    show GO p e below T569 (mkF m 19 #[.val (.ref a1), .val (.int 0)] [(.int 0), (.int 1), (.ref t3)]) _
    refine XS.iadd X569.here hx rfl (hb hby d4_19) rfl ?_
    rw [show ((1 : Int32) + (0 : Int32)) = (1 : Int32) from by decide]
    show GO p e below T569 (mkF m 20 #[.val (.ref a1), .val (.int 0)] [(.int 1), (.ref t3)]) _
    refine XS.aloadN X569.here hx rfl (hb hby d4_20) rfl rfl ?_
    show GO p e below T569 (mkF m 21 #[.val (.ref a1), .val (.int 0)] [(.ref a1), (.int 1), (.ref t3)]) _
    refine st570 _ ?_
    show GO p e below T570 (mkF m 24 #[.val (.ref a1), .val (.int 0)] [(.ref t3), (.int 1), (.ref t3)]) _
    refine X570.arraylength hx (by rw [e570]; exact Ar571.1) (State.isArrayOf_alike hZ.alike Ar571.2.1) (g := (mkF m 24 #[.val (.ref a1), .val (.int 0)] [(.ref t3), (.int 1), (.ref t3)])) rfl rfl (hb hby d4_24) _ ?_
    rw [len_of S571 M571]
    show GO p e below T570 (mkF m 25 #[.val (.ref a1), .val (.int 0)] [(.int 8), (.int 1), (.ref t3)]) _
    refine XS.iconst X570.here hx rfl (hb hby d4_25) ?_
    show GO p e below T570 (mkF m 26 #[.val (.ref a1), .val (.int 0)] [(.int 1), (.int 8), (.int 1), (.ref t3)]) _
    refine XS.isub X570.here hx rfl (hb hby d4_26) rfl ?_
    rw [show ((8 : Int32) - (1 : Int32)) = (7 : Int32) from by decide]
    show GO p e below T570 (mkF m 27 #[.val (.ref a1), .val (.int 0)] [(.int 7), (.int 1), (.ref t3)]) _
    refine XS.iand X570.here hx rfl (hb hby d4_27) rfl ?_
    rw [show ((1 : Int32) &&& (7 : Int32)) = (1 : Int32) from by decide]
    show GO p e below T570 (mkF m 28 #[.val (.ref a1), .val (.int 0)] [(.int 1), (.ref t3)]) _
    refine X570.baloadBooleans hx (j := (1 : Int32)) (v := (.int x0)) (by rw [e570]; exact Ar572.1) (State.isArrayOf_alike hZ.alike Ar572.2.1) Ar572.2.2 hin572 hat572 (g := (mkF m 28 #[.val (.ref a1), .val (.int 0)] [(.int 1), (.ref t3)])) rfl rfl (hb hby d4_28) _ ?_
    exact kt
  by_cases hb574 : x0 = (0 : Int32)
  · obtain ⟨T575, X575, e575, st575⟩ := getF X570 hx hZ hown (host := "") (Or.inl (wd hw 30 rfl)) Via.refl e570 Fs (g := (mkF m 4 #[.val (.ref a1), .val (.int 1)] [(.ref a1), (.int 1)])) rfl rfl (hb hby d4_4)
    obtain ⟨T576, X576, e576, st576⟩ := getF X575 hx hZ hown (host := "") (Or.inl (wd hw 23 rfl)) Via.refl e575 F3 (g := (mkF m 11 #[.val (.ref a1), .val (.int 1)] [(.ref a1)])) rfl rfl (hb hby d4_11)
    obtain ⟨T577, X577, e577, st577⟩ := getF X576 hx hZ hown (host := "") (Or.inl (wd hw 37 rfl)) Via.refl e576 Fh (g := (mkF m 15 #[.val (.ref a1), .val (.int 1)] [(.ref a1), (.ref t3)])) rfl rfl (hb hby d4_15)
    obtain ⟨T578, X578, e578, st578⟩ := getF X577 hx hZ hown (host := "") (Or.inl (wd hw 23 rfl)) Via.refl e577 F3 (g := (mkF m 21 #[.val (.ref a1), .val (.int 1)] [(.ref a1), (.int 2), (.ref t3)])) rfl rfl (hb hby d4_21)
    obtain ⟨cl579, Ar579, -, S579, M579, -, -⟩ := id V3
    obtain ⟨cl580, Ar580, q580, S580, M580, H580, G580⟩ := id V3
    have hin580 : ¬ ((2 : Int32) < 0 ∨ cl580.slots.size ≤ ((2 : Int32)).toNatClampNeg) := inb_of S580 ⟨by decide, by decide⟩
    have hat580 : cl580.slots[((2 : Int32)).toNatClampNeg]? = some (.int x1) := Has.at H580 hin580 hx1
    have pre581 : ∀ t, Steps p.tables e below (T578.setTop (mkF m 29 #[.val (.ref a1), .val (.int 1)] [(.int x1)])) t → Steps p.tables e below (s₁.setTop (entryFrame m #[(.ref a1)] 2)) t := by
      intro t kt
      refine pre573 t ?_
      show GO p e below T570 (mkF m 29 #[.val (.ref a1), .val (.int 0)] [(.int x0)]) _
      refine XS.ifYes X570.here hx rfl (pc0 := 29) (pc' := 34) rfl (hb hby d4_29) rfl ((if0 _ _).trans (teq (hb574 : x0 = (0 : Int32))).1) (by decide) (by decide) ?_
      show GO p e below T570 (mkF m 34 #[.val (.ref a1), .val (.int 0)] []) _
      refine XS.iinc X570.here hx rfl (hb hby d4_34) rfl (l' := #[.val (.ref a1), .val (.int ((0 : Int32) + (1 : Int32)))]) rfl ?_
      rw [show ((0 : Int32) + (1 : Int32)) = (1 : Int32) from by decide]
      show GO p e below T570 (mkF m 37 #[.val (.ref a1), .val (.int 1)] []) _
      refine XS.goto X570.here hx rfl (pc0 := 37) (pc' := 2) rfl (hb hby d4_37) (by decide) (by decide) ?_
      show GO p e below T570 (mkF m 2 #[.val (.ref a1), .val (.int 1)] []) _
      refine XS.iloadN X570.here hx rfl (hb hby d4_2) rfl ?_
      show GO p e below T570 (mkF m 3 #[.val (.ref a1), .val (.int 1)] [(.int 1)]) _
      refine XS.aloadN X570.here hx rfl (hb hby d4_3) rfl rfl ?_
      show GO p e below T570 (mkF m 4 #[.val (.ref a1), .val (.int 1)] [(.ref a1), (.int 1)]) _
      refine st575 _ ?_
      show GO p e below T575 (mkF m 7 #[.val (.ref a1), .val (.int 1)] [(.int 2), (.int 1)]) _
      refine XS.icmpNo X575.here hx rfl (hb hby d4_7) rfl (tlt ((by decide) : (1 : Int32) < (2 : Int32))).2.1 ?_
      show GO p e below T575 (mkF m 10 #[.val (.ref a1), .val (.int 1)] []) _
      refine XS.aloadN X575.here hx rfl (hb hby d4_10) rfl rfl ?_
      show GO p e below T575 (mkF m 11 #[.val (.ref a1), .val (.int 1)] [(.ref a1)]) _
      refine st576 _ ?_
      show GO p e below T576 (mkF m 14 #[.val (.ref a1), .val (.int 1)] [(.ref t3)]) _
      refine XS.aloadN X576.here hx rfl (hb hby d4_14) rfl rfl ?_
      show GO p e below T576 (mkF m 15 #[.val (.ref a1), .val (.int 1)] [(.ref a1), (.ref t3)]) _
      refine st577 _ ?_
      show GO p e below T577 (mkF m 18 #[.val (.ref a1), .val (.int 1)] [(.int 1), (.ref t3)]) _
      refine XS.iloadN X577.here hx rfl (hb hby d4_18) rfl ?_
      show GO p e below T577 (mkF m 19 #[.val (.ref a1), .val (.int 1)] [(.int 1), (.int 1), (.ref t3)]) _
      refine XS.iadd X577.here hx rfl (hb hby d4_19) rfl ?_
      rw [show ((1 : Int32) + (1 : Int32)) = (2 : Int32) from by decide]
      show GO p e below T577 (mkF m 20 #[.val (.ref a1), .val (.int 1)] [(.int 2), (.ref t3)]) _
      refine XS.aloadN X577.here hx rfl (hb hby d4_20) rfl rfl ?_
      show GO p e below T577 (mkF m 21 #[.val (.ref a1), .val (.int 1)] [(.ref a1), (.int 2), (.ref t3)]) _
      refine st578 _ ?_
      show GO p e below T578 (mkF m 24 #[.val (.ref a1), .val (.int 1)] [(.ref t3), (.int 2), (.ref t3)]) _
      refine X578.arraylength hx (by rw [e578]; exact Ar579.1) (State.isArrayOf_alike hZ.alike Ar579.2.1) (g := (mkF m 24 #[.val (.ref a1), .val (.int 1)] [(.ref t3), (.int 2), (.ref t3)])) rfl rfl (hb hby d4_24) _ ?_
      rw [len_of S579 M579]
      show GO p e below T578 (mkF m 25 #[.val (.ref a1), .val (.int 1)] [(.int 8), (.int 2), (.ref t3)]) _
      refine XS.iconst X578.here hx rfl (hb hby d4_25) ?_
      show GO p e below T578 (mkF m 26 #[.val (.ref a1), .val (.int 1)] [(.int 1), (.int 8), (.int 2), (.ref t3)]) _
      refine XS.isub X578.here hx rfl (hb hby d4_26) rfl ?_
      rw [show ((8 : Int32) - (1 : Int32)) = (7 : Int32) from by decide]
      show GO p e below T578 (mkF m 27 #[.val (.ref a1), .val (.int 1)] [(.int 7), (.int 2), (.ref t3)]) _
      refine XS.iand X578.here hx rfl (hb hby d4_27) rfl ?_
      rw [show ((2 : Int32) &&& (7 : Int32)) = (2 : Int32) from by decide]
      show GO p e below T578 (mkF m 28 #[.val (.ref a1), .val (.int 1)] [(.int 2), (.ref t3)]) _
      refine X578.baloadBooleans hx (j := (2 : Int32)) (v := (.int x1)) (by rw [e578]; exact Ar580.1) (State.isArrayOf_alike hZ.alike Ar580.2.1) Ar580.2.2 hin580 hat580 (g := (mkF m 28 #[.val (.ref a1), .val (.int 1)] [(.int 2), (.ref t3)])) rfl rfl (hb hby d4_28) _ ?_
      exact kt
    by_cases hb582 : x1 = (0 : Int32)
    · obtain ⟨T583, X583, e583, st583⟩ := getF X578 hx hZ hown (host := "") (Or.inl (wd hw 30 rfl)) Via.refl e578 Fs (g := (mkF m 4 #[.val (.ref a1), .val (.int 2)] [(.ref a1), (.int 2)])) rfl rfl (hb hby d4_4)
      obtain ⟨fs, hr, hrun, hended, hW, hsame⟩ := X583.leave (v := some (.int 0)) (fun h => by rw [Bd.returns] at h; cases h)
      refine ⟨_, _, pre581 _ ?_, hrun, hended, _, _, rfl, ?_, ⟨_, rfl⟩, hW, hsame.mono (by decide) (by decide)⟩
      · show GO p e below T578 (mkF m 29 #[.val (.ref a1), .val (.int 1)] [(.int x1)]) _
        refine XS.ifYes X578.here hx rfl (pc0 := 29) (pc' := 34) rfl (hb hby d4_29) rfl ((if0 _ _).trans (teq (hb582 : x1 = (0 : Int32))).1) (by decide) (by decide) ?_
        show GO p e below T578 (mkF m 34 #[.val (.ref a1), .val (.int 1)] []) _
        refine XS.iinc X578.here hx rfl (hb hby d4_34) rfl (l' := #[.val (.ref a1), .val (.int ((1 : Int32) + (1 : Int32)))]) rfl ?_
        rw [show ((1 : Int32) + (1 : Int32)) = (2 : Int32) from by decide]
        show GO p e below T578 (mkF m 37 #[.val (.ref a1), .val (.int 2)] []) _
        refine XS.goto X578.here hx rfl (pc0 := 37) (pc' := 2) rfl (hb hby d4_37) (by decide) (by decide) ?_
        show GO p e below T578 (mkF m 2 #[.val (.ref a1), .val (.int 2)] []) _
        refine XS.iloadN X578.here hx rfl (hb hby d4_2) rfl ?_
        show GO p e below T578 (mkF m 3 #[.val (.ref a1), .val (.int 2)] [(.int 2)]) _
        refine XS.aloadN X578.here hx rfl (hb hby d4_3) rfl rfl ?_
        show GO p e below T578 (mkF m 4 #[.val (.ref a1), .val (.int 2)] [(.ref a1), (.int 2)]) _
        refine st583 _ ?_
        show GO p e below T583 (mkF m 7 #[.val (.ref a1), .val (.int 2)] [(.int 2), (.int 2)]) _
        refine XS.icmpYes X583.here hx rfl (pc0 := 7) (pc' := 40) rfl (hb hby d4_7) rfl (flt ((by decide) : ¬ ((2 : Int32) < (2 : Int32)))).2.1 (by decide) (by decide) ?_
        show GO p e below T583 (mkF m 40 #[.val (.ref a1), .val (.int 2)] []) _
        refine XS.iconst X583.here hx rfl (hb hby d4_40) ?_
        show GO p e below T583 (mkF m 41 #[.val (.ref a1), .val (.int 2)] [(.int 0)]) _
        exact retN X583 hx (t := .boolean) Bd.returns (by simp) (hb hby d4_41) hr
      · show Qrm_hold1_2 Z a1 t3 k3 vR x0 x1 h0 n0 _ T583.heap _
        rw [e583]
        exact ⟨(by simp [own_any, hb574, hb582]), N0, rfl⟩
    · obtain ⟨fs, hr, hrun, hended, hW, hsame⟩ := X578.leave (v := some (.int 1)) (fun h => by rw [Bd.returns] at h; cases h)
      refine ⟨_, _, pre581 _ ?_, hrun, hended, _, _, rfl, ?_, ⟨_, rfl⟩, hW, hsame.mono (by decide) (by decide)⟩
      · show GO p e below T578 (mkF m 29 #[.val (.ref a1), .val (.int 1)] [(.int x1)]) _
        refine XS.ifNo X578.here hx rfl (hb hby d4_29) rfl ((if0 _ _).trans (feq (hb582 : ¬ (x1 = (0 : Int32)))).1) ?_
        show GO p e below T578 (mkF m 32 #[.val (.ref a1), .val (.int 1)] []) _
        refine XS.iconst X578.here hx rfl (hb hby d4_32) ?_
        show GO p e below T578 (mkF m 33 #[.val (.ref a1), .val (.int 1)] [(.int 1)]) _
        exact retN X578 hx (t := .boolean) Bd.returns (by simp) (hb hby d4_33) hr
      · show Qrm_hold1_2 Z a1 t3 k3 vR x0 x1 h0 n0 _ T578.heap _
        rw [e578]
        exact ⟨(by simp [own_any, hb574, hb582]), N0, rfl⟩
  · obtain ⟨fs, hr, hrun, hended, hW, hsame⟩ := X570.leave (v := some (.int 1)) (fun h => by rw [Bd.returns] at h; cases h)
    refine ⟨_, _, pre573 _ ?_, hrun, hended, _, _, rfl, ?_, ⟨_, rfl⟩, hW, hsame.mono (by decide) (by decide)⟩
    · show GO p e below T570 (mkF m 29 #[.val (.ref a1), .val (.int 0)] [(.int x0)]) _
      refine XS.ifNo X570.here hx rfl (hb hby d4_29) rfl ((if0 _ _).trans (feq (hb574 : ¬ (x0 = (0 : Int32)))).1) ?_
      show GO p e below T570 (mkF m 32 #[.val (.ref a1), .val (.int 0)] []) _
      refine XS.iconst X570.here hx rfl (hb hby d4_32) ?_
      show GO p e below T570 (mkF m 33 #[.val (.ref a1), .val (.int 0)] [(.int 1)]) _
      exact retN X570 hx (t := .boolean) Bd.returns (by simp) (hb hby d4_33) hr
    · show Qrm_hold1_2 Z a1 t3 k3 vR x0 x1 h0 n0 _ T570.heap _
      rw [e570]
      exact ⟨(by simp [own_any, hb574]), N0, rfl⟩
def Qrm_hold1_3 (Z : State) (a1 : Addr) (t3 : Addr) (k3 : ClassId) (vR : List Value) (x0 : Int32) (x1 : Int32) (x2 : Int32) (h0 : Heap) (n0 : Nat) (v : Option Value) (h : Heap) (L : List Loc) : Prop := v = some (.int (own_any [x0, x1, x2])) ∧ Fr n0 L ∧ h = h0
theorem ef_rm_hold1_3 (m : MethodId) (x0 : Addr) : entryFrame m #[(.ref x0)] 2 = mkF m 0 #[.val (.ref x0), .unset] [] := by first | rfl | (simp [entryFrame, mkF, argsToLocals, Value.category]; done)
set_option maxRecDepth 65536 in
set_option maxHeartbeats 40000000 in
theorem rm_hold1_3 (l : Launch) (Z : State) (a0 : Array Value) (hw : ∀ d ∈ tables_1, d.before a0 Z = true) (ws : List Jvm.Cond) (a1 : Addr) (t3 : Addr) (k3 : ClassId) (vR : List Value) (x0 : Int32) (x1 : Int32) (x2 : Int32) (h0 : Heap) (n0 : Nat) (Z0 : n0 ≤ h0.size) (Fh : Fld Z h0 a1 kS0 "head" "I" (.int 1)) (Fs : Fld Z h0 a1 kS0 "size" "I" (.int 3)) (F3 : Fld Z h0 a1 kS0 "rears" "[Z" (.ref t3)) (V3 : Arv Z h0 t3 k3 .boolean (8 : Int32) vR (.int 0)) (hx0 : vR.getD ((1 : Int32)).toNatClampNeg (.int 0) = (.int x0)) (hx1 : vR.getD ((2 : Int32)).toNatClampNeg (.int 0) = (.int x1)) (hx2 : vR.getD ((3 : Int32)).toNatClampNeg (.int 0) = (.int x2)) :
    MetFree l (⟨kS0, "holdsRear", "()Z"⟩ : MethodName) (head1 (Jvm.Cond.code (⟨kS0, "holdsRear", "()Z"⟩ : MethodName) prog_14_method_10_code 2 (some .boolean) :: ws) ({ frames := 0, cells := 0, slots := 0, locals := 0 } : Room)) (fun a U => a = #[(.ref a1)] ∧ Z.Warmed39 U.vm ∧ U.heap = h0) (fun _ _ _ _ _ => True) (fun _ U o U' => ∃ v L, o = .returned v ∧ Qrm_hold1_3 Z a1 t3 k3 vR x0 x1 x2 h0 n0 v U'.heap L ∧ FrameEnd U o U' L ({ frames := 0, cells := 0, slots := 0, locals := 0 } : Room).cells ({ frames := 0, cells := 0, slots := 0, locals := 0 } : Room).slots) := by
  refine MetFree.of_bodySF (plainFor_of_name pn_0) hisR ?_
  intro p e s m args below meth c s₁ Bd hml0 hP hK
  obtain ⟨rfl, hZ, hh⟩ := hP
  have hx := Bd.exec
  have hby := Bd.bytes
  have hml : c.maxLocals = 2 := hml0
  have hown : s.vm.findClass kS0 = some m.cls := findClass_of_methodNamed Bd.named
  have hnm := (name_of_methodNamed Bd.named Bd.method).1
  have X0 : Stand p l e ({ frames := 0, cells := 0, slots := 0, locals := 0 } : Room) s m #[(.ref a1)] below meth c s₁ [] 0 0 := Stand.of_body Bd
  have e0 : s₁.heap = h0 := by rw [← hh, Bd.state]; rfl
  have N0 := Fr.nil n0
  have pre0 : ∀ t, Steps p.tables e below (s₁.setTop (mkF m 0 #[.val (.ref a1), .unset] [])) t → Steps p.tables e below (s₁.setTop (entryFrame m #[(.ref a1)] 2)) t := fun t k => castTop (ef_rm_hold1_3 m a1) k
  have lt_Fh := ltA Fh.lt
  have lt_Fs := ltA Fs.lt
  have lt_F3 := ltA F3.lt
  have lt_V3 := ltA V3.lt
  obtain ⟨T584, X584, e584, st584⟩ := getF X0 hx hZ hown (host := "") (Or.inl (wd hw 30 rfl)) Via.refl e0 Fs (g := (mkF m 4 #[.val (.ref a1), .val (.int 0)] [(.ref a1), (.int 0)])) rfl rfl (hb hby d4_4)
  obtain ⟨T585, X585, e585, st585⟩ := getF X584 hx hZ hown (host := "") (Or.inl (wd hw 23 rfl)) Via.refl e584 F3 (g := (mkF m 11 #[.val (.ref a1), .val (.int 0)] [(.ref a1)])) rfl rfl (hb hby d4_11)
  obtain ⟨T586, X586, e586, st586⟩ := getF X585 hx hZ hown (host := "") (Or.inl (wd hw 37 rfl)) Via.refl e585 Fh (g := (mkF m 15 #[.val (.ref a1), .val (.int 0)] [(.ref a1), (.ref t3)])) rfl rfl (hb hby d4_15)
  obtain ⟨T587, X587, e587, st587⟩ := getF X586 hx hZ hown (host := "") (Or.inl (wd hw 23 rfl)) Via.refl e586 F3 (g := (mkF m 21 #[.val (.ref a1), .val (.int 0)] [(.ref a1), (.int 1), (.ref t3)])) rfl rfl (hb hby d4_21)
  obtain ⟨cl588, Ar588, -, S588, M588, -, -⟩ := id V3
  obtain ⟨cl589, Ar589, q589, S589, M589, H589, G589⟩ := id V3
  have hin589 : ¬ ((1 : Int32) < 0 ∨ cl589.slots.size ≤ ((1 : Int32)).toNatClampNeg) := inb_of S589 ⟨by decide, by decide⟩
  have hat589 : cl589.slots[((1 : Int32)).toNatClampNeg]? = some (.int x0) := Has.at H589 hin589 hx0
  have pre590 : ∀ t, Steps p.tables e below (T587.setTop (mkF m 29 #[.val (.ref a1), .val (.int 0)] [(.int x0)])) t → Steps p.tables e below (s₁.setTop (entryFrame m #[(.ref a1)] 2)) t := by
    intro t kt
    refine pre0 t ?_
    show GO p e below s₁ (mkF m 0 #[.val (.ref a1), .unset] []) _
    refine XS.iconst X0.here hx rfl (hb hby d4_0) ?_
    show GO p e below s₁ (mkF m 1 #[.val (.ref a1), .unset] [(.int 0)]) _
    refine XS.istoreN X0.here hx rfl (hb hby d4_1) rfl (l' := #[.val (.ref a1), .val (.int 0)]) rfl ?_
    show GO p e below s₁ (mkF m 2 #[.val (.ref a1), .val (.int 0)] []) _
    refine XS.iloadN X0.here hx rfl (hb hby d4_2) rfl ?_
    show GO p e below s₁ (mkF m 3 #[.val (.ref a1), .val (.int 0)] [(.int 0)]) _
    refine XS.aloadN X0.here hx rfl (hb hby d4_3) rfl rfl ?_
    show GO p e below s₁ (mkF m 4 #[.val (.ref a1), .val (.int 0)] [(.ref a1), (.int 0)]) _
    refine st584 _ ?_
    show GO p e below T584 (mkF m 7 #[.val (.ref a1), .val (.int 0)] [(.int 3), (.int 0)]) _
    refine XS.icmpNo X584.here hx rfl (hb hby d4_7) rfl (tlt ((by decide) : (0 : Int32) < (3 : Int32))).2.1 ?_
    show GO p e below T584 (mkF m 10 #[.val (.ref a1), .val (.int 0)] []) _
    refine XS.aloadN X584.here hx rfl (hb hby d4_10) rfl rfl ?_
    show GO p e below T584 (mkF m 11 #[.val (.ref a1), .val (.int 0)] [(.ref a1)]) _
    refine st585 _ ?_
    show GO p e below T585 (mkF m 14 #[.val (.ref a1), .val (.int 0)] [(.ref t3)]) _
    refine XS.aloadN X585.here hx rfl (hb hby d4_14) rfl rfl ?_
    show GO p e below T585 (mkF m 15 #[.val (.ref a1), .val (.int 0)] [(.ref a1), (.ref t3)]) _
    refine st586 _ ?_
    show GO p e below T586 (mkF m 18 #[.val (.ref a1), .val (.int 0)] [(.int 1), (.ref t3)]) _
    refine XS.iloadN X586.here hx rfl (hb hby d4_18) rfl ?_
    show GO p e below T586 (mkF m 19 #[.val (.ref a1), .val (.int 0)] [(.int 0), (.int 1), (.ref t3)]) _
    refine XS.iadd X586.here hx rfl (hb hby d4_19) rfl ?_
    rw [show ((1 : Int32) + (0 : Int32)) = (1 : Int32) from by decide]
    show GO p e below T586 (mkF m 20 #[.val (.ref a1), .val (.int 0)] [(.int 1), (.ref t3)]) _
    refine XS.aloadN X586.here hx rfl (hb hby d4_20) rfl rfl ?_
    show GO p e below T586 (mkF m 21 #[.val (.ref a1), .val (.int 0)] [(.ref a1), (.int 1), (.ref t3)]) _
    refine st587 _ ?_
    show GO p e below T587 (mkF m 24 #[.val (.ref a1), .val (.int 0)] [(.ref t3), (.int 1), (.ref t3)]) _
    refine X587.arraylength hx (by rw [e587]; exact Ar588.1) (State.isArrayOf_alike hZ.alike Ar588.2.1) (g := (mkF m 24 #[.val (.ref a1), .val (.int 0)] [(.ref t3), (.int 1), (.ref t3)])) rfl rfl (hb hby d4_24) _ ?_
    rw [len_of S588 M588]
    show GO p e below T587 (mkF m 25 #[.val (.ref a1), .val (.int 0)] [(.int 8), (.int 1), (.ref t3)]) _
    refine XS.iconst X587.here hx rfl (hb hby d4_25) ?_
    show GO p e below T587 (mkF m 26 #[.val (.ref a1), .val (.int 0)] [(.int 1), (.int 8), (.int 1), (.ref t3)]) _
    refine XS.isub X587.here hx rfl (hb hby d4_26) rfl ?_
    rw [show ((8 : Int32) - (1 : Int32)) = (7 : Int32) from by decide]
    show GO p e below T587 (mkF m 27 #[.val (.ref a1), .val (.int 0)] [(.int 7), (.int 1), (.ref t3)]) _
    refine XS.iand X587.here hx rfl (hb hby d4_27) rfl ?_
    rw [show ((1 : Int32) &&& (7 : Int32)) = (1 : Int32) from by decide]
    show GO p e below T587 (mkF m 28 #[.val (.ref a1), .val (.int 0)] [(.int 1), (.ref t3)]) _
    refine X587.baloadBooleans hx (j := (1 : Int32)) (v := (.int x0)) (by rw [e587]; exact Ar589.1) (State.isArrayOf_alike hZ.alike Ar589.2.1) Ar589.2.2 hin589 hat589 (g := (mkF m 28 #[.val (.ref a1), .val (.int 0)] [(.int 1), (.ref t3)])) rfl rfl (hb hby d4_28) _ ?_
    exact kt
  by_cases hb591 : x0 = (0 : Int32)
  · obtain ⟨T592, X592, e592, st592⟩ := getF X587 hx hZ hown (host := "") (Or.inl (wd hw 30 rfl)) Via.refl e587 Fs (g := (mkF m 4 #[.val (.ref a1), .val (.int 1)] [(.ref a1), (.int 1)])) rfl rfl (hb hby d4_4)
    obtain ⟨T593, X593, e593, st593⟩ := getF X592 hx hZ hown (host := "") (Or.inl (wd hw 23 rfl)) Via.refl e592 F3 (g := (mkF m 11 #[.val (.ref a1), .val (.int 1)] [(.ref a1)])) rfl rfl (hb hby d4_11)
    obtain ⟨T594, X594, e594, st594⟩ := getF X593 hx hZ hown (host := "") (Or.inl (wd hw 37 rfl)) Via.refl e593 Fh (g := (mkF m 15 #[.val (.ref a1), .val (.int 1)] [(.ref a1), (.ref t3)])) rfl rfl (hb hby d4_15)
    obtain ⟨T595, X595, e595, st595⟩ := getF X594 hx hZ hown (host := "") (Or.inl (wd hw 23 rfl)) Via.refl e594 F3 (g := (mkF m 21 #[.val (.ref a1), .val (.int 1)] [(.ref a1), (.int 2), (.ref t3)])) rfl rfl (hb hby d4_21)
    obtain ⟨cl596, Ar596, -, S596, M596, -, -⟩ := id V3
    obtain ⟨cl597, Ar597, q597, S597, M597, H597, G597⟩ := id V3
    have hin597 : ¬ ((2 : Int32) < 0 ∨ cl597.slots.size ≤ ((2 : Int32)).toNatClampNeg) := inb_of S597 ⟨by decide, by decide⟩
    have hat597 : cl597.slots[((2 : Int32)).toNatClampNeg]? = some (.int x1) := Has.at H597 hin597 hx1
    have pre598 : ∀ t, Steps p.tables e below (T595.setTop (mkF m 29 #[.val (.ref a1), .val (.int 1)] [(.int x1)])) t → Steps p.tables e below (s₁.setTop (entryFrame m #[(.ref a1)] 2)) t := by
      intro t kt
      refine pre590 t ?_
      show GO p e below T587 (mkF m 29 #[.val (.ref a1), .val (.int 0)] [(.int x0)]) _
      refine XS.ifYes X587.here hx rfl (pc0 := 29) (pc' := 34) rfl (hb hby d4_29) rfl ((if0 _ _).trans (teq (hb591 : x0 = (0 : Int32))).1) (by decide) (by decide) ?_
      show GO p e below T587 (mkF m 34 #[.val (.ref a1), .val (.int 0)] []) _
      refine XS.iinc X587.here hx rfl (hb hby d4_34) rfl (l' := #[.val (.ref a1), .val (.int ((0 : Int32) + (1 : Int32)))]) rfl ?_
      rw [show ((0 : Int32) + (1 : Int32)) = (1 : Int32) from by decide]
      show GO p e below T587 (mkF m 37 #[.val (.ref a1), .val (.int 1)] []) _
      refine XS.goto X587.here hx rfl (pc0 := 37) (pc' := 2) rfl (hb hby d4_37) (by decide) (by decide) ?_
      show GO p e below T587 (mkF m 2 #[.val (.ref a1), .val (.int 1)] []) _
      refine XS.iloadN X587.here hx rfl (hb hby d4_2) rfl ?_
      show GO p e below T587 (mkF m 3 #[.val (.ref a1), .val (.int 1)] [(.int 1)]) _
      refine XS.aloadN X587.here hx rfl (hb hby d4_3) rfl rfl ?_
      show GO p e below T587 (mkF m 4 #[.val (.ref a1), .val (.int 1)] [(.ref a1), (.int 1)]) _
      refine st592 _ ?_
      show GO p e below T592 (mkF m 7 #[.val (.ref a1), .val (.int 1)] [(.int 3), (.int 1)]) _
      refine XS.icmpNo X592.here hx rfl (hb hby d4_7) rfl (tlt ((by decide) : (1 : Int32) < (3 : Int32))).2.1 ?_
      show GO p e below T592 (mkF m 10 #[.val (.ref a1), .val (.int 1)] []) _
      refine XS.aloadN X592.here hx rfl (hb hby d4_10) rfl rfl ?_
      show GO p e below T592 (mkF m 11 #[.val (.ref a1), .val (.int 1)] [(.ref a1)]) _
      refine st593 _ ?_
      show GO p e below T593 (mkF m 14 #[.val (.ref a1), .val (.int 1)] [(.ref t3)]) _
      refine XS.aloadN X593.here hx rfl (hb hby d4_14) rfl rfl ?_
      show GO p e below T593 (mkF m 15 #[.val (.ref a1), .val (.int 1)] [(.ref a1), (.ref t3)]) _
      refine st594 _ ?_
      show GO p e below T594 (mkF m 18 #[.val (.ref a1), .val (.int 1)] [(.int 1), (.ref t3)]) _
      refine XS.iloadN X594.here hx rfl (hb hby d4_18) rfl ?_
      show GO p e below T594 (mkF m 19 #[.val (.ref a1), .val (.int 1)] [(.int 1), (.int 1), (.ref t3)]) _
      refine XS.iadd X594.here hx rfl (hb hby d4_19) rfl ?_
      rw [show ((1 : Int32) + (1 : Int32)) = (2 : Int32) from by decide]
      show GO p e below T594 (mkF m 20 #[.val (.ref a1), .val (.int 1)] [(.int 2), (.ref t3)]) _
      refine XS.aloadN X594.here hx rfl (hb hby d4_20) rfl rfl ?_
      show GO p e below T594 (mkF m 21 #[.val (.ref a1), .val (.int 1)] [(.ref a1), (.int 2), (.ref t3)]) _
      refine st595 _ ?_
      show GO p e below T595 (mkF m 24 #[.val (.ref a1), .val (.int 1)] [(.ref t3), (.int 2), (.ref t3)]) _
      refine X595.arraylength hx (by rw [e595]; exact Ar596.1) (State.isArrayOf_alike hZ.alike Ar596.2.1) (g := (mkF m 24 #[.val (.ref a1), .val (.int 1)] [(.ref t3), (.int 2), (.ref t3)])) rfl rfl (hb hby d4_24) _ ?_
      rw [len_of S596 M596]
      show GO p e below T595 (mkF m 25 #[.val (.ref a1), .val (.int 1)] [(.int 8), (.int 2), (.ref t3)]) _
      refine XS.iconst X595.here hx rfl (hb hby d4_25) ?_
      show GO p e below T595 (mkF m 26 #[.val (.ref a1), .val (.int 1)] [(.int 1), (.int 8), (.int 2), (.ref t3)]) _
      refine XS.isub X595.here hx rfl (hb hby d4_26) rfl ?_
      rw [show ((8 : Int32) - (1 : Int32)) = (7 : Int32) from by decide]
      show GO p e below T595 (mkF m 27 #[.val (.ref a1), .val (.int 1)] [(.int 7), (.int 2), (.ref t3)]) _
      refine XS.iand X595.here hx rfl (hb hby d4_27) rfl ?_
      rw [show ((2 : Int32) &&& (7 : Int32)) = (2 : Int32) from by decide]
      show GO p e below T595 (mkF m 28 #[.val (.ref a1), .val (.int 1)] [(.int 2), (.ref t3)]) _
      refine X595.baloadBooleans hx (j := (2 : Int32)) (v := (.int x1)) (by rw [e595]; exact Ar597.1) (State.isArrayOf_alike hZ.alike Ar597.2.1) Ar597.2.2 hin597 hat597 (g := (mkF m 28 #[.val (.ref a1), .val (.int 1)] [(.int 2), (.ref t3)])) rfl rfl (hb hby d4_28) _ ?_
      exact kt
    by_cases hb599 : x1 = (0 : Int32)
    · obtain ⟨T600, X600, e600, st600⟩ := getF X595 hx hZ hown (host := "") (Or.inl (wd hw 30 rfl)) Via.refl e595 Fs (g := (mkF m 4 #[.val (.ref a1), .val (.int 2)] [(.ref a1), (.int 2)])) rfl rfl (hb hby d4_4)
      obtain ⟨T601, X601, e601, st601⟩ := getF X600 hx hZ hown (host := "") (Or.inl (wd hw 23 rfl)) Via.refl e600 F3 (g := (mkF m 11 #[.val (.ref a1), .val (.int 2)] [(.ref a1)])) rfl rfl (hb hby d4_11)
      obtain ⟨T602, X602, e602, st602⟩ := getF X601 hx hZ hown (host := "") (Or.inl (wd hw 37 rfl)) Via.refl e601 Fh (g := (mkF m 15 #[.val (.ref a1), .val (.int 2)] [(.ref a1), (.ref t3)])) rfl rfl (hb hby d4_15)
      obtain ⟨T603, X603, e603, st603⟩ := getF X602 hx hZ hown (host := "") (Or.inl (wd hw 23 rfl)) Via.refl e602 F3 (g := (mkF m 21 #[.val (.ref a1), .val (.int 2)] [(.ref a1), (.int 3), (.ref t3)])) rfl rfl (hb hby d4_21)
      obtain ⟨cl604, Ar604, -, S604, M604, -, -⟩ := id V3
      obtain ⟨cl605, Ar605, q605, S605, M605, H605, G605⟩ := id V3
      have hin605 : ¬ ((3 : Int32) < 0 ∨ cl605.slots.size ≤ ((3 : Int32)).toNatClampNeg) := inb_of S605 ⟨by decide, by decide⟩
      have hat605 : cl605.slots[((3 : Int32)).toNatClampNeg]? = some (.int x2) := Has.at H605 hin605 hx2
      have pre606 : ∀ t, Steps p.tables e below (T603.setTop (mkF m 29 #[.val (.ref a1), .val (.int 2)] [(.int x2)])) t → Steps p.tables e below (s₁.setTop (entryFrame m #[(.ref a1)] 2)) t := by
        intro t kt
        refine pre598 t ?_
        show GO p e below T595 (mkF m 29 #[.val (.ref a1), .val (.int 1)] [(.int x1)]) _
        refine XS.ifYes X595.here hx rfl (pc0 := 29) (pc' := 34) rfl (hb hby d4_29) rfl ((if0 _ _).trans (teq (hb599 : x1 = (0 : Int32))).1) (by decide) (by decide) ?_
        show GO p e below T595 (mkF m 34 #[.val (.ref a1), .val (.int 1)] []) _
        refine XS.iinc X595.here hx rfl (hb hby d4_34) rfl (l' := #[.val (.ref a1), .val (.int ((1 : Int32) + (1 : Int32)))]) rfl ?_
        rw [show ((1 : Int32) + (1 : Int32)) = (2 : Int32) from by decide]
        show GO p e below T595 (mkF m 37 #[.val (.ref a1), .val (.int 2)] []) _
        refine XS.goto X595.here hx rfl (pc0 := 37) (pc' := 2) rfl (hb hby d4_37) (by decide) (by decide) ?_
        show GO p e below T595 (mkF m 2 #[.val (.ref a1), .val (.int 2)] []) _
        refine XS.iloadN X595.here hx rfl (hb hby d4_2) rfl ?_
        show GO p e below T595 (mkF m 3 #[.val (.ref a1), .val (.int 2)] [(.int 2)]) _
        refine XS.aloadN X595.here hx rfl (hb hby d4_3) rfl rfl ?_
        show GO p e below T595 (mkF m 4 #[.val (.ref a1), .val (.int 2)] [(.ref a1), (.int 2)]) _
        refine st600 _ ?_
        show GO p e below T600 (mkF m 7 #[.val (.ref a1), .val (.int 2)] [(.int 3), (.int 2)]) _
        refine XS.icmpNo X600.here hx rfl (hb hby d4_7) rfl (tlt ((by decide) : (2 : Int32) < (3 : Int32))).2.1 ?_
        show GO p e below T600 (mkF m 10 #[.val (.ref a1), .val (.int 2)] []) _
        refine XS.aloadN X600.here hx rfl (hb hby d4_10) rfl rfl ?_
        show GO p e below T600 (mkF m 11 #[.val (.ref a1), .val (.int 2)] [(.ref a1)]) _
        refine st601 _ ?_
        show GO p e below T601 (mkF m 14 #[.val (.ref a1), .val (.int 2)] [(.ref t3)]) _
        refine XS.aloadN X601.here hx rfl (hb hby d4_14) rfl rfl ?_
        show GO p e below T601 (mkF m 15 #[.val (.ref a1), .val (.int 2)] [(.ref a1), (.ref t3)]) _
        refine st602 _ ?_
        show GO p e below T602 (mkF m 18 #[.val (.ref a1), .val (.int 2)] [(.int 1), (.ref t3)]) _
        refine XS.iloadN X602.here hx rfl (hb hby d4_18) rfl ?_
        show GO p e below T602 (mkF m 19 #[.val (.ref a1), .val (.int 2)] [(.int 2), (.int 1), (.ref t3)]) _
        refine XS.iadd X602.here hx rfl (hb hby d4_19) rfl ?_
        rw [show ((1 : Int32) + (2 : Int32)) = (3 : Int32) from by decide]
        show GO p e below T602 (mkF m 20 #[.val (.ref a1), .val (.int 2)] [(.int 3), (.ref t3)]) _
        refine XS.aloadN X602.here hx rfl (hb hby d4_20) rfl rfl ?_
        show GO p e below T602 (mkF m 21 #[.val (.ref a1), .val (.int 2)] [(.ref a1), (.int 3), (.ref t3)]) _
        refine st603 _ ?_
        show GO p e below T603 (mkF m 24 #[.val (.ref a1), .val (.int 2)] [(.ref t3), (.int 3), (.ref t3)]) _
        refine X603.arraylength hx (by rw [e603]; exact Ar604.1) (State.isArrayOf_alike hZ.alike Ar604.2.1) (g := (mkF m 24 #[.val (.ref a1), .val (.int 2)] [(.ref t3), (.int 3), (.ref t3)])) rfl rfl (hb hby d4_24) _ ?_
        rw [len_of S604 M604]
        show GO p e below T603 (mkF m 25 #[.val (.ref a1), .val (.int 2)] [(.int 8), (.int 3), (.ref t3)]) _
        refine XS.iconst X603.here hx rfl (hb hby d4_25) ?_
        show GO p e below T603 (mkF m 26 #[.val (.ref a1), .val (.int 2)] [(.int 1), (.int 8), (.int 3), (.ref t3)]) _
        refine XS.isub X603.here hx rfl (hb hby d4_26) rfl ?_
        rw [show ((8 : Int32) - (1 : Int32)) = (7 : Int32) from by decide]
        show GO p e below T603 (mkF m 27 #[.val (.ref a1), .val (.int 2)] [(.int 7), (.int 3), (.ref t3)]) _
        refine XS.iand X603.here hx rfl (hb hby d4_27) rfl ?_
        rw [show ((3 : Int32) &&& (7 : Int32)) = (3 : Int32) from by decide]
        show GO p e below T603 (mkF m 28 #[.val (.ref a1), .val (.int 2)] [(.int 3), (.ref t3)]) _
        refine X603.baloadBooleans hx (j := (3 : Int32)) (v := (.int x2)) (by rw [e603]; exact Ar605.1) (State.isArrayOf_alike hZ.alike Ar605.2.1) Ar605.2.2 hin605 hat605 (g := (mkF m 28 #[.val (.ref a1), .val (.int 2)] [(.int 3), (.ref t3)])) rfl rfl (hb hby d4_28) _ ?_
        exact kt
      by_cases hb607 : x2 = (0 : Int32)
      · obtain ⟨T608, X608, e608, st608⟩ := getF X603 hx hZ hown (host := "") (Or.inl (wd hw 30 rfl)) Via.refl e603 Fs (g := (mkF m 4 #[.val (.ref a1), .val (.int 3)] [(.ref a1), (.int 3)])) rfl rfl (hb hby d4_4)
        obtain ⟨fs, hr, hrun, hended, hW, hsame⟩ := X608.leave (v := some (.int 0)) (fun h => by rw [Bd.returns] at h; cases h)
        refine ⟨_, _, pre606 _ ?_, hrun, hended, _, _, rfl, ?_, ⟨_, rfl⟩, hW, hsame.mono (by decide) (by decide)⟩
        · show GO p e below T603 (mkF m 29 #[.val (.ref a1), .val (.int 2)] [(.int x2)]) _
          refine XS.ifYes X603.here hx rfl (pc0 := 29) (pc' := 34) rfl (hb hby d4_29) rfl ((if0 _ _).trans (teq (hb607 : x2 = (0 : Int32))).1) (by decide) (by decide) ?_
          show GO p e below T603 (mkF m 34 #[.val (.ref a1), .val (.int 2)] []) _
          refine XS.iinc X603.here hx rfl (hb hby d4_34) rfl (l' := #[.val (.ref a1), .val (.int ((2 : Int32) + (1 : Int32)))]) rfl ?_
          rw [show ((2 : Int32) + (1 : Int32)) = (3 : Int32) from by decide]
          show GO p e below T603 (mkF m 37 #[.val (.ref a1), .val (.int 3)] []) _
          refine XS.goto X603.here hx rfl (pc0 := 37) (pc' := 2) rfl (hb hby d4_37) (by decide) (by decide) ?_
          show GO p e below T603 (mkF m 2 #[.val (.ref a1), .val (.int 3)] []) _
          refine XS.iloadN X603.here hx rfl (hb hby d4_2) rfl ?_
          show GO p e below T603 (mkF m 3 #[.val (.ref a1), .val (.int 3)] [(.int 3)]) _
          refine XS.aloadN X603.here hx rfl (hb hby d4_3) rfl rfl ?_
          show GO p e below T603 (mkF m 4 #[.val (.ref a1), .val (.int 3)] [(.ref a1), (.int 3)]) _
          refine st608 _ ?_
          show GO p e below T608 (mkF m 7 #[.val (.ref a1), .val (.int 3)] [(.int 3), (.int 3)]) _
          refine XS.icmpYes X608.here hx rfl (pc0 := 7) (pc' := 40) rfl (hb hby d4_7) rfl (flt ((by decide) : ¬ ((3 : Int32) < (3 : Int32)))).2.1 (by decide) (by decide) ?_
          show GO p e below T608 (mkF m 40 #[.val (.ref a1), .val (.int 3)] []) _
          refine XS.iconst X608.here hx rfl (hb hby d4_40) ?_
          show GO p e below T608 (mkF m 41 #[.val (.ref a1), .val (.int 3)] [(.int 0)]) _
          exact retN X608 hx (t := .boolean) Bd.returns (by simp) (hb hby d4_41) hr
        · show Qrm_hold1_3 Z a1 t3 k3 vR x0 x1 x2 h0 n0 _ T608.heap _
          rw [e608]
          exact ⟨(by simp [own_any, hb591, hb599, hb607]), N0, rfl⟩
      · obtain ⟨fs, hr, hrun, hended, hW, hsame⟩ := X603.leave (v := some (.int 1)) (fun h => by rw [Bd.returns] at h; cases h)
        refine ⟨_, _, pre606 _ ?_, hrun, hended, _, _, rfl, ?_, ⟨_, rfl⟩, hW, hsame.mono (by decide) (by decide)⟩
        · show GO p e below T603 (mkF m 29 #[.val (.ref a1), .val (.int 2)] [(.int x2)]) _
          refine XS.ifNo X603.here hx rfl (hb hby d4_29) rfl ((if0 _ _).trans (feq (hb607 : ¬ (x2 = (0 : Int32)))).1) ?_
          show GO p e below T603 (mkF m 32 #[.val (.ref a1), .val (.int 2)] []) _
          refine XS.iconst X603.here hx rfl (hb hby d4_32) ?_
          show GO p e below T603 (mkF m 33 #[.val (.ref a1), .val (.int 2)] [(.int 1)]) _
          exact retN X603 hx (t := .boolean) Bd.returns (by simp) (hb hby d4_33) hr
        · show Qrm_hold1_3 Z a1 t3 k3 vR x0 x1 x2 h0 n0 _ T603.heap _
          rw [e603]
          exact ⟨(by simp [own_any, hb591, hb599, hb607]), N0, rfl⟩
    · obtain ⟨fs, hr, hrun, hended, hW, hsame⟩ := X595.leave (v := some (.int 1)) (fun h => by rw [Bd.returns] at h; cases h)
      refine ⟨_, _, pre598 _ ?_, hrun, hended, _, _, rfl, ?_, ⟨_, rfl⟩, hW, hsame.mono (by decide) (by decide)⟩
      · show GO p e below T595 (mkF m 29 #[.val (.ref a1), .val (.int 1)] [(.int x1)]) _
        refine XS.ifNo X595.here hx rfl (hb hby d4_29) rfl ((if0 _ _).trans (feq (hb599 : ¬ (x1 = (0 : Int32)))).1) ?_
        show GO p e below T595 (mkF m 32 #[.val (.ref a1), .val (.int 1)] []) _
        refine XS.iconst X595.here hx rfl (hb hby d4_32) ?_
        show GO p e below T595 (mkF m 33 #[.val (.ref a1), .val (.int 1)] [(.int 1)]) _
        exact retN X595 hx (t := .boolean) Bd.returns (by simp) (hb hby d4_33) hr
      · show Qrm_hold1_3 Z a1 t3 k3 vR x0 x1 x2 h0 n0 _ T595.heap _
        rw [e595]
        exact ⟨(by simp [own_any, hb591, hb599]), N0, rfl⟩
  · obtain ⟨fs, hr, hrun, hended, hW, hsame⟩ := X587.leave (v := some (.int 1)) (fun h => by rw [Bd.returns] at h; cases h)
    refine ⟨_, _, pre590 _ ?_, hrun, hended, _, _, rfl, ?_, ⟨_, rfl⟩, hW, hsame.mono (by decide) (by decide)⟩
    · show GO p e below T587 (mkF m 29 #[.val (.ref a1), .val (.int 0)] [(.int x0)]) _
      refine XS.ifNo X587.here hx rfl (hb hby d4_29) rfl ((if0 _ _).trans (feq (hb591 : ¬ (x0 = (0 : Int32)))).1) ?_
      show GO p e below T587 (mkF m 32 #[.val (.ref a1), .val (.int 0)] []) _
      refine XS.iconst X587.here hx rfl (hb hby d4_32) ?_
      show GO p e below T587 (mkF m 33 #[.val (.ref a1), .val (.int 0)] [(.int 1)]) _
      exact retN X587 hx (t := .boolean) Bd.returns (by simp) (hb hby d4_33) hr
    · show Qrm_hold1_3 Z a1 t3 k3 vR x0 x1 x2 h0 n0 _ T587.heap _
      rw [e587]
      exact ⟨(by simp [own_any, hb591]), N0, rfl⟩
def Qrm_hold2_0 (Z : State) (a1 : Addr) (t3 : Addr) (k3 : ClassId) (vR : List Value) (h0 : Heap) (n0 : Nat) (v : Option Value) (h : Heap) (L : List Loc) : Prop := v = some (.int (own_any [])) ∧ Fr n0 L ∧ h = h0
theorem ef_rm_hold2_0 (m : MethodId) (x0 : Addr) : entryFrame m #[(.ref x0)] 2 = mkF m 0 #[.val (.ref x0), .unset] [] := by first | rfl | (simp [entryFrame, mkF, argsToLocals, Value.category]; done)
set_option maxRecDepth 65536 in
set_option maxHeartbeats 40000000 in
theorem rm_hold2_0 (l : Launch) (Z : State) (a0 : Array Value) (hw : ∀ d ∈ tables_1, d.before a0 Z = true) (ws : List Jvm.Cond) (a1 : Addr) (t3 : Addr) (k3 : ClassId) (vR : List Value) (h0 : Heap) (n0 : Nat) (Z0 : n0 ≤ h0.size) (Fh : Fld Z h0 a1 kS0 "head" "I" (.int 2)) (Fs : Fld Z h0 a1 kS0 "size" "I" (.int 0)) (F3 : Fld Z h0 a1 kS0 "rears" "[Z" (.ref t3)) (V3 : Arv Z h0 t3 k3 .boolean (8 : Int32) vR (.int 0)) :
    MetFree l (⟨kS0, "holdsRear", "()Z"⟩ : MethodName) (head1 (Jvm.Cond.code (⟨kS0, "holdsRear", "()Z"⟩ : MethodName) prog_14_method_10_code 2 (some .boolean) :: ws) ({ frames := 0, cells := 0, slots := 0, locals := 0 } : Room)) (fun a U => a = #[(.ref a1)] ∧ Z.Warmed39 U.vm ∧ U.heap = h0) (fun _ _ _ _ _ => True) (fun _ U o U' => ∃ v L, o = .returned v ∧ Qrm_hold2_0 Z a1 t3 k3 vR h0 n0 v U'.heap L ∧ FrameEnd U o U' L ({ frames := 0, cells := 0, slots := 0, locals := 0 } : Room).cells ({ frames := 0, cells := 0, slots := 0, locals := 0 } : Room).slots) := by
  refine MetFree.of_bodySF (plainFor_of_name pn_0) hisR ?_
  intro p e s m args below meth c s₁ Bd hml0 hP hK
  obtain ⟨rfl, hZ, hh⟩ := hP
  have hx := Bd.exec
  have hby := Bd.bytes
  have hml : c.maxLocals = 2 := hml0
  have hown : s.vm.findClass kS0 = some m.cls := findClass_of_methodNamed Bd.named
  have hnm := (name_of_methodNamed Bd.named Bd.method).1
  have X0 : Stand p l e ({ frames := 0, cells := 0, slots := 0, locals := 0 } : Room) s m #[(.ref a1)] below meth c s₁ [] 0 0 := Stand.of_body Bd
  have e0 : s₁.heap = h0 := by rw [← hh, Bd.state]; rfl
  have N0 := Fr.nil n0
  have pre0 : ∀ t, Steps p.tables e below (s₁.setTop (mkF m 0 #[.val (.ref a1), .unset] [])) t → Steps p.tables e below (s₁.setTop (entryFrame m #[(.ref a1)] 2)) t := fun t k => castTop (ef_rm_hold2_0 m a1) k
  have lt_Fh := ltA Fh.lt
  have lt_Fs := ltA Fs.lt
  have lt_F3 := ltA F3.lt
  have lt_V3 := ltA V3.lt
  obtain ⟨T609, X609, e609, st609⟩ := getF X0 hx hZ hown (host := "") (Or.inl (wd hw 30 rfl)) Via.refl e0 Fs (g := (mkF m 4 #[.val (.ref a1), .val (.int 0)] [(.ref a1), (.int 0)])) rfl rfl (hb hby d4_4)
  obtain ⟨fs, hr, hrun, hended, hW, hsame⟩ := X609.leave (v := some (.int 0)) (fun h => by rw [Bd.returns] at h; cases h)
  refine ⟨_, _, pre0 _ ?_, hrun, hended, _, _, rfl, ?_, ⟨_, rfl⟩, hW, hsame.mono (by decide) (by decide)⟩
  · show GO p e below s₁ (mkF m 0 #[.val (.ref a1), .unset] []) _
    refine XS.iconst X0.here hx rfl (hb hby d4_0) ?_
    show GO p e below s₁ (mkF m 1 #[.val (.ref a1), .unset] [(.int 0)]) _
    refine XS.istoreN X0.here hx rfl (hb hby d4_1) rfl (l' := #[.val (.ref a1), .val (.int 0)]) rfl ?_
    show GO p e below s₁ (mkF m 2 #[.val (.ref a1), .val (.int 0)] []) _
    refine XS.iloadN X0.here hx rfl (hb hby d4_2) rfl ?_
    show GO p e below s₁ (mkF m 3 #[.val (.ref a1), .val (.int 0)] [(.int 0)]) _
    refine XS.aloadN X0.here hx rfl (hb hby d4_3) rfl rfl ?_
    show GO p e below s₁ (mkF m 4 #[.val (.ref a1), .val (.int 0)] [(.ref a1), (.int 0)]) _
    refine st609 _ ?_
    show GO p e below T609 (mkF m 7 #[.val (.ref a1), .val (.int 0)] [(.int 0), (.int 0)]) _
    refine XS.icmpYes X609.here hx rfl (pc0 := 7) (pc' := 40) rfl (hb hby d4_7) rfl (flt ((by decide) : ¬ ((0 : Int32) < (0 : Int32)))).2.1 (by decide) (by decide) ?_
    show GO p e below T609 (mkF m 40 #[.val (.ref a1), .val (.int 0)] []) _
    refine XS.iconst X609.here hx rfl (hb hby d4_40) ?_
    show GO p e below T609 (mkF m 41 #[.val (.ref a1), .val (.int 0)] [(.int 0)]) _
    exact retN X609 hx (t := .boolean) Bd.returns (by simp) (hb hby d4_41) hr
  · show Qrm_hold2_0 Z a1 t3 k3 vR h0 n0 _ T609.heap _
    rw [e609]
    exact ⟨(by simp [own_any]), N0, rfl⟩
def Qrm_hold2_1 (Z : State) (a1 : Addr) (t3 : Addr) (k3 : ClassId) (vR : List Value) (x0 : Int32) (h0 : Heap) (n0 : Nat) (v : Option Value) (h : Heap) (L : List Loc) : Prop := v = some (.int (own_any [x0])) ∧ Fr n0 L ∧ h = h0
theorem ef_rm_hold2_1 (m : MethodId) (x0 : Addr) : entryFrame m #[(.ref x0)] 2 = mkF m 0 #[.val (.ref x0), .unset] [] := by first | rfl | (simp [entryFrame, mkF, argsToLocals, Value.category]; done)
set_option maxRecDepth 65536 in
set_option maxHeartbeats 40000000 in
theorem rm_hold2_1 (l : Launch) (Z : State) (a0 : Array Value) (hw : ∀ d ∈ tables_1, d.before a0 Z = true) (ws : List Jvm.Cond) (a1 : Addr) (t3 : Addr) (k3 : ClassId) (vR : List Value) (x0 : Int32) (h0 : Heap) (n0 : Nat) (Z0 : n0 ≤ h0.size) (Fh : Fld Z h0 a1 kS0 "head" "I" (.int 2)) (Fs : Fld Z h0 a1 kS0 "size" "I" (.int 1)) (F3 : Fld Z h0 a1 kS0 "rears" "[Z" (.ref t3)) (V3 : Arv Z h0 t3 k3 .boolean (8 : Int32) vR (.int 0)) (hx0 : vR.getD ((2 : Int32)).toNatClampNeg (.int 0) = (.int x0)) :
    MetFree l (⟨kS0, "holdsRear", "()Z"⟩ : MethodName) (head1 (Jvm.Cond.code (⟨kS0, "holdsRear", "()Z"⟩ : MethodName) prog_14_method_10_code 2 (some .boolean) :: ws) ({ frames := 0, cells := 0, slots := 0, locals := 0 } : Room)) (fun a U => a = #[(.ref a1)] ∧ Z.Warmed39 U.vm ∧ U.heap = h0) (fun _ _ _ _ _ => True) (fun _ U o U' => ∃ v L, o = .returned v ∧ Qrm_hold2_1 Z a1 t3 k3 vR x0 h0 n0 v U'.heap L ∧ FrameEnd U o U' L ({ frames := 0, cells := 0, slots := 0, locals := 0 } : Room).cells ({ frames := 0, cells := 0, slots := 0, locals := 0 } : Room).slots) := by
  refine MetFree.of_bodySF (plainFor_of_name pn_0) hisR ?_
  intro p e s m args below meth c s₁ Bd hml0 hP hK
  obtain ⟨rfl, hZ, hh⟩ := hP
  have hx := Bd.exec
  have hby := Bd.bytes
  have hml : c.maxLocals = 2 := hml0
  have hown : s.vm.findClass kS0 = some m.cls := findClass_of_methodNamed Bd.named
  have hnm := (name_of_methodNamed Bd.named Bd.method).1
  have X0 : Stand p l e ({ frames := 0, cells := 0, slots := 0, locals := 0 } : Room) s m #[(.ref a1)] below meth c s₁ [] 0 0 := Stand.of_body Bd
  have e0 : s₁.heap = h0 := by rw [← hh, Bd.state]; rfl
  have N0 := Fr.nil n0
  have pre0 : ∀ t, Steps p.tables e below (s₁.setTop (mkF m 0 #[.val (.ref a1), .unset] [])) t → Steps p.tables e below (s₁.setTop (entryFrame m #[(.ref a1)] 2)) t := fun t k => castTop (ef_rm_hold2_1 m a1) k
  have lt_Fh := ltA Fh.lt
  have lt_Fs := ltA Fs.lt
  have lt_F3 := ltA F3.lt
  have lt_V3 := ltA V3.lt
  obtain ⟨T610, X610, e610, st610⟩ := getF X0 hx hZ hown (host := "") (Or.inl (wd hw 30 rfl)) Via.refl e0 Fs (g := (mkF m 4 #[.val (.ref a1), .val (.int 0)] [(.ref a1), (.int 0)])) rfl rfl (hb hby d4_4)
  obtain ⟨T611, X611, e611, st611⟩ := getF X610 hx hZ hown (host := "") (Or.inl (wd hw 23 rfl)) Via.refl e610 F3 (g := (mkF m 11 #[.val (.ref a1), .val (.int 0)] [(.ref a1)])) rfl rfl (hb hby d4_11)
  obtain ⟨T612, X612, e612, st612⟩ := getF X611 hx hZ hown (host := "") (Or.inl (wd hw 37 rfl)) Via.refl e611 Fh (g := (mkF m 15 #[.val (.ref a1), .val (.int 0)] [(.ref a1), (.ref t3)])) rfl rfl (hb hby d4_15)
  obtain ⟨T613, X613, e613, st613⟩ := getF X612 hx hZ hown (host := "") (Or.inl (wd hw 23 rfl)) Via.refl e612 F3 (g := (mkF m 21 #[.val (.ref a1), .val (.int 0)] [(.ref a1), (.int 2), (.ref t3)])) rfl rfl (hb hby d4_21)
  obtain ⟨cl614, Ar614, -, S614, M614, -, -⟩ := id V3
  obtain ⟨cl615, Ar615, q615, S615, M615, H615, G615⟩ := id V3
  have hin615 : ¬ ((2 : Int32) < 0 ∨ cl615.slots.size ≤ ((2 : Int32)).toNatClampNeg) := inb_of S615 ⟨by decide, by decide⟩
  have hat615 : cl615.slots[((2 : Int32)).toNatClampNeg]? = some (.int x0) := Has.at H615 hin615 hx0
  have pre616 : ∀ t, Steps p.tables e below (T613.setTop (mkF m 29 #[.val (.ref a1), .val (.int 0)] [(.int x0)])) t → Steps p.tables e below (s₁.setTop (entryFrame m #[(.ref a1)] 2)) t := by
    intro t kt
    refine pre0 t ?_
    show GO p e below s₁ (mkF m 0 #[.val (.ref a1), .unset] []) _
    refine XS.iconst X0.here hx rfl (hb hby d4_0) ?_
    show GO p e below s₁ (mkF m 1 #[.val (.ref a1), .unset] [(.int 0)]) _
    refine XS.istoreN X0.here hx rfl (hb hby d4_1) rfl (l' := #[.val (.ref a1), .val (.int 0)]) rfl ?_
    show GO p e below s₁ (mkF m 2 #[.val (.ref a1), .val (.int 0)] []) _
    refine XS.iloadN X0.here hx rfl (hb hby d4_2) rfl ?_
    show GO p e below s₁ (mkF m 3 #[.val (.ref a1), .val (.int 0)] [(.int 0)]) _
    refine XS.aloadN X0.here hx rfl (hb hby d4_3) rfl rfl ?_
    show GO p e below s₁ (mkF m 4 #[.val (.ref a1), .val (.int 0)] [(.ref a1), (.int 0)]) _
    refine st610 _ ?_
    show GO p e below T610 (mkF m 7 #[.val (.ref a1), .val (.int 0)] [(.int 1), (.int 0)]) _
    refine XS.icmpNo X610.here hx rfl (hb hby d4_7) rfl (tlt ((by decide) : (0 : Int32) < (1 : Int32))).2.1 ?_
    show GO p e below T610 (mkF m 10 #[.val (.ref a1), .val (.int 0)] []) _
    refine XS.aloadN X610.here hx rfl (hb hby d4_10) rfl rfl ?_
    show GO p e below T610 (mkF m 11 #[.val (.ref a1), .val (.int 0)] [(.ref a1)]) _
    refine st611 _ ?_
    show GO p e below T611 (mkF m 14 #[.val (.ref a1), .val (.int 0)] [(.ref t3)]) _
    refine XS.aloadN X611.here hx rfl (hb hby d4_14) rfl rfl ?_
    show GO p e below T611 (mkF m 15 #[.val (.ref a1), .val (.int 0)] [(.ref a1), (.ref t3)]) _
    refine st612 _ ?_
    show GO p e below T612 (mkF m 18 #[.val (.ref a1), .val (.int 0)] [(.int 2), (.ref t3)]) _
    refine XS.iloadN X612.here hx rfl (hb hby d4_18) rfl ?_
    show GO p e below T612 (mkF m 19 #[.val (.ref a1), .val (.int 0)] [(.int 0), (.int 2), (.ref t3)]) _
    refine XS.iadd X612.here hx rfl (hb hby d4_19) rfl ?_
    rw [show ((2 : Int32) + (0 : Int32)) = (2 : Int32) from by decide]
    show GO p e below T612 (mkF m 20 #[.val (.ref a1), .val (.int 0)] [(.int 2), (.ref t3)]) _
    refine XS.aloadN X612.here hx rfl (hb hby d4_20) rfl rfl ?_
    show GO p e below T612 (mkF m 21 #[.val (.ref a1), .val (.int 0)] [(.ref a1), (.int 2), (.ref t3)]) _
    refine st613 _ ?_
    show GO p e below T613 (mkF m 24 #[.val (.ref a1), .val (.int 0)] [(.ref t3), (.int 2), (.ref t3)]) _
    refine X613.arraylength hx (by rw [e613]; exact Ar614.1) (State.isArrayOf_alike hZ.alike Ar614.2.1) (g := (mkF m 24 #[.val (.ref a1), .val (.int 0)] [(.ref t3), (.int 2), (.ref t3)])) rfl rfl (hb hby d4_24) _ ?_
    rw [len_of S614 M614]
    show GO p e below T613 (mkF m 25 #[.val (.ref a1), .val (.int 0)] [(.int 8), (.int 2), (.ref t3)]) _
    refine XS.iconst X613.here hx rfl (hb hby d4_25) ?_
    show GO p e below T613 (mkF m 26 #[.val (.ref a1), .val (.int 0)] [(.int 1), (.int 8), (.int 2), (.ref t3)]) _
    refine XS.isub X613.here hx rfl (hb hby d4_26) rfl ?_
    rw [show ((8 : Int32) - (1 : Int32)) = (7 : Int32) from by decide]
    show GO p e below T613 (mkF m 27 #[.val (.ref a1), .val (.int 0)] [(.int 7), (.int 2), (.ref t3)]) _
    refine XS.iand X613.here hx rfl (hb hby d4_27) rfl ?_
    rw [show ((2 : Int32) &&& (7 : Int32)) = (2 : Int32) from by decide]
    show GO p e below T613 (mkF m 28 #[.val (.ref a1), .val (.int 0)] [(.int 2), (.ref t3)]) _
    refine X613.baloadBooleans hx (j := (2 : Int32)) (v := (.int x0)) (by rw [e613]; exact Ar615.1) (State.isArrayOf_alike hZ.alike Ar615.2.1) Ar615.2.2 hin615 hat615 (g := (mkF m 28 #[.val (.ref a1), .val (.int 0)] [(.int 2), (.ref t3)])) rfl rfl (hb hby d4_28) _ ?_
    exact kt
  by_cases hb617 : x0 = (0 : Int32)
  · obtain ⟨T618, X618, e618, st618⟩ := getF X613 hx hZ hown (host := "") (Or.inl (wd hw 30 rfl)) Via.refl e613 Fs (g := (mkF m 4 #[.val (.ref a1), .val (.int 1)] [(.ref a1), (.int 1)])) rfl rfl (hb hby d4_4)
    obtain ⟨fs, hr, hrun, hended, hW, hsame⟩ := X618.leave (v := some (.int 0)) (fun h => by rw [Bd.returns] at h; cases h)
    refine ⟨_, _, pre616 _ ?_, hrun, hended, _, _, rfl, ?_, ⟨_, rfl⟩, hW, hsame.mono (by decide) (by decide)⟩
    · show GO p e below T613 (mkF m 29 #[.val (.ref a1), .val (.int 0)] [(.int x0)]) _
      refine XS.ifYes X613.here hx rfl (pc0 := 29) (pc' := 34) rfl (hb hby d4_29) rfl ((if0 _ _).trans (teq (hb617 : x0 = (0 : Int32))).1) (by decide) (by decide) ?_
      show GO p e below T613 (mkF m 34 #[.val (.ref a1), .val (.int 0)] []) _
      refine XS.iinc X613.here hx rfl (hb hby d4_34) rfl (l' := #[.val (.ref a1), .val (.int ((0 : Int32) + (1 : Int32)))]) rfl ?_
      rw [show ((0 : Int32) + (1 : Int32)) = (1 : Int32) from by decide]
      show GO p e below T613 (mkF m 37 #[.val (.ref a1), .val (.int 1)] []) _
      refine XS.goto X613.here hx rfl (pc0 := 37) (pc' := 2) rfl (hb hby d4_37) (by decide) (by decide) ?_
      show GO p e below T613 (mkF m 2 #[.val (.ref a1), .val (.int 1)] []) _
      refine XS.iloadN X613.here hx rfl (hb hby d4_2) rfl ?_
      show GO p e below T613 (mkF m 3 #[.val (.ref a1), .val (.int 1)] [(.int 1)]) _
      refine XS.aloadN X613.here hx rfl (hb hby d4_3) rfl rfl ?_
      show GO p e below T613 (mkF m 4 #[.val (.ref a1), .val (.int 1)] [(.ref a1), (.int 1)]) _
      refine st618 _ ?_
      show GO p e below T618 (mkF m 7 #[.val (.ref a1), .val (.int 1)] [(.int 1), (.int 1)]) _
      refine XS.icmpYes X618.here hx rfl (pc0 := 7) (pc' := 40) rfl (hb hby d4_7) rfl (flt ((by decide) : ¬ ((1 : Int32) < (1 : Int32)))).2.1 (by decide) (by decide) ?_
      show GO p e below T618 (mkF m 40 #[.val (.ref a1), .val (.int 1)] []) _
      refine XS.iconst X618.here hx rfl (hb hby d4_40) ?_
      show GO p e below T618 (mkF m 41 #[.val (.ref a1), .val (.int 1)] [(.int 0)]) _
      exact retN X618 hx (t := .boolean) Bd.returns (by simp) (hb hby d4_41) hr
    · show Qrm_hold2_1 Z a1 t3 k3 vR x0 h0 n0 _ T618.heap _
      rw [e618]
      exact ⟨(by simp [own_any, hb617]), N0, rfl⟩
  · obtain ⟨fs, hr, hrun, hended, hW, hsame⟩ := X613.leave (v := some (.int 1)) (fun h => by rw [Bd.returns] at h; cases h)
    refine ⟨_, _, pre616 _ ?_, hrun, hended, _, _, rfl, ?_, ⟨_, rfl⟩, hW, hsame.mono (by decide) (by decide)⟩
    · show GO p e below T613 (mkF m 29 #[.val (.ref a1), .val (.int 0)] [(.int x0)]) _
      refine XS.ifNo X613.here hx rfl (hb hby d4_29) rfl ((if0 _ _).trans (feq (hb617 : ¬ (x0 = (0 : Int32)))).1) ?_
      show GO p e below T613 (mkF m 32 #[.val (.ref a1), .val (.int 0)] []) _
      refine XS.iconst X613.here hx rfl (hb hby d4_32) ?_
      show GO p e below T613 (mkF m 33 #[.val (.ref a1), .val (.int 0)] [(.int 1)]) _
      exact retN X613 hx (t := .boolean) Bd.returns (by simp) (hb hby d4_33) hr
    · show Qrm_hold2_1 Z a1 t3 k3 vR x0 h0 n0 _ T613.heap _
      rw [e613]
      exact ⟨(by simp [own_any, hb617]), N0, rfl⟩
def Qrm_hold2_2 (Z : State) (a1 : Addr) (t3 : Addr) (k3 : ClassId) (vR : List Value) (x0 : Int32) (x1 : Int32) (h0 : Heap) (n0 : Nat) (v : Option Value) (h : Heap) (L : List Loc) : Prop := v = some (.int (own_any [x0, x1])) ∧ Fr n0 L ∧ h = h0
theorem ef_rm_hold2_2 (m : MethodId) (x0 : Addr) : entryFrame m #[(.ref x0)] 2 = mkF m 0 #[.val (.ref x0), .unset] [] := by first | rfl | (simp [entryFrame, mkF, argsToLocals, Value.category]; done)
set_option maxRecDepth 65536 in
set_option maxHeartbeats 40000000 in
theorem rm_hold2_2 (l : Launch) (Z : State) (a0 : Array Value) (hw : ∀ d ∈ tables_1, d.before a0 Z = true) (ws : List Jvm.Cond) (a1 : Addr) (t3 : Addr) (k3 : ClassId) (vR : List Value) (x0 : Int32) (x1 : Int32) (h0 : Heap) (n0 : Nat) (Z0 : n0 ≤ h0.size) (Fh : Fld Z h0 a1 kS0 "head" "I" (.int 2)) (Fs : Fld Z h0 a1 kS0 "size" "I" (.int 2)) (F3 : Fld Z h0 a1 kS0 "rears" "[Z" (.ref t3)) (V3 : Arv Z h0 t3 k3 .boolean (8 : Int32) vR (.int 0)) (hx0 : vR.getD ((2 : Int32)).toNatClampNeg (.int 0) = (.int x0)) (hx1 : vR.getD ((3 : Int32)).toNatClampNeg (.int 0) = (.int x1)) :
    MetFree l (⟨kS0, "holdsRear", "()Z"⟩ : MethodName) (head1 (Jvm.Cond.code (⟨kS0, "holdsRear", "()Z"⟩ : MethodName) prog_14_method_10_code 2 (some .boolean) :: ws) ({ frames := 0, cells := 0, slots := 0, locals := 0 } : Room)) (fun a U => a = #[(.ref a1)] ∧ Z.Warmed39 U.vm ∧ U.heap = h0) (fun _ _ _ _ _ => True) (fun _ U o U' => ∃ v L, o = .returned v ∧ Qrm_hold2_2 Z a1 t3 k3 vR x0 x1 h0 n0 v U'.heap L ∧ FrameEnd U o U' L ({ frames := 0, cells := 0, slots := 0, locals := 0 } : Room).cells ({ frames := 0, cells := 0, slots := 0, locals := 0 } : Room).slots) := by
  refine MetFree.of_bodySF (plainFor_of_name pn_0) hisR ?_
  intro p e s m args below meth c s₁ Bd hml0 hP hK
  obtain ⟨rfl, hZ, hh⟩ := hP
  have hx := Bd.exec
  have hby := Bd.bytes
  have hml : c.maxLocals = 2 := hml0
  have hown : s.vm.findClass kS0 = some m.cls := findClass_of_methodNamed Bd.named
  have hnm := (name_of_methodNamed Bd.named Bd.method).1
  have X0 : Stand p l e ({ frames := 0, cells := 0, slots := 0, locals := 0 } : Room) s m #[(.ref a1)] below meth c s₁ [] 0 0 := Stand.of_body Bd
  have e0 : s₁.heap = h0 := by rw [← hh, Bd.state]; rfl
  have N0 := Fr.nil n0
  have pre0 : ∀ t, Steps p.tables e below (s₁.setTop (mkF m 0 #[.val (.ref a1), .unset] [])) t → Steps p.tables e below (s₁.setTop (entryFrame m #[(.ref a1)] 2)) t := fun t k => castTop (ef_rm_hold2_2 m a1) k
  have lt_Fh := ltA Fh.lt
  have lt_Fs := ltA Fs.lt
  have lt_F3 := ltA F3.lt
  have lt_V3 := ltA V3.lt
  obtain ⟨T619, X619, e619, st619⟩ := getF X0 hx hZ hown (host := "") (Or.inl (wd hw 30 rfl)) Via.refl e0 Fs (g := (mkF m 4 #[.val (.ref a1), .val (.int 0)] [(.ref a1), (.int 0)])) rfl rfl (hb hby d4_4)
  obtain ⟨T620, X620, e620, st620⟩ := getF X619 hx hZ hown (host := "") (Or.inl (wd hw 23 rfl)) Via.refl e619 F3 (g := (mkF m 11 #[.val (.ref a1), .val (.int 0)] [(.ref a1)])) rfl rfl (hb hby d4_11)
  obtain ⟨T621, X621, e621, st621⟩ := getF X620 hx hZ hown (host := "") (Or.inl (wd hw 37 rfl)) Via.refl e620 Fh (g := (mkF m 15 #[.val (.ref a1), .val (.int 0)] [(.ref a1), (.ref t3)])) rfl rfl (hb hby d4_15)
  obtain ⟨T622, X622, e622, st622⟩ := getF X621 hx hZ hown (host := "") (Or.inl (wd hw 23 rfl)) Via.refl e621 F3 (g := (mkF m 21 #[.val (.ref a1), .val (.int 0)] [(.ref a1), (.int 2), (.ref t3)])) rfl rfl (hb hby d4_21)
  obtain ⟨cl623, Ar623, -, S623, M623, -, -⟩ := id V3
  obtain ⟨cl624, Ar624, q624, S624, M624, H624, G624⟩ := id V3
  have hin624 : ¬ ((2 : Int32) < 0 ∨ cl624.slots.size ≤ ((2 : Int32)).toNatClampNeg) := inb_of S624 ⟨by decide, by decide⟩
  have hat624 : cl624.slots[((2 : Int32)).toNatClampNeg]? = some (.int x0) := Has.at H624 hin624 hx0
  have pre625 : ∀ t, Steps p.tables e below (T622.setTop (mkF m 29 #[.val (.ref a1), .val (.int 0)] [(.int x0)])) t → Steps p.tables e below (s₁.setTop (entryFrame m #[(.ref a1)] 2)) t := by
    intro t kt
    refine pre0 t ?_
    show GO p e below s₁ (mkF m 0 #[.val (.ref a1), .unset] []) _
    refine XS.iconst X0.here hx rfl (hb hby d4_0) ?_
    show GO p e below s₁ (mkF m 1 #[.val (.ref a1), .unset] [(.int 0)]) _
    refine XS.istoreN X0.here hx rfl (hb hby d4_1) rfl (l' := #[.val (.ref a1), .val (.int 0)]) rfl ?_
    show GO p e below s₁ (mkF m 2 #[.val (.ref a1), .val (.int 0)] []) _
    refine XS.iloadN X0.here hx rfl (hb hby d4_2) rfl ?_
    show GO p e below s₁ (mkF m 3 #[.val (.ref a1), .val (.int 0)] [(.int 0)]) _
    refine XS.aloadN X0.here hx rfl (hb hby d4_3) rfl rfl ?_
    show GO p e below s₁ (mkF m 4 #[.val (.ref a1), .val (.int 0)] [(.ref a1), (.int 0)]) _
    refine st619 _ ?_
    show GO p e below T619 (mkF m 7 #[.val (.ref a1), .val (.int 0)] [(.int 2), (.int 0)]) _
    refine XS.icmpNo X619.here hx rfl (hb hby d4_7) rfl (tlt ((by decide) : (0 : Int32) < (2 : Int32))).2.1 ?_
    show GO p e below T619 (mkF m 10 #[.val (.ref a1), .val (.int 0)] []) _
    refine XS.aloadN X619.here hx rfl (hb hby d4_10) rfl rfl ?_
    show GO p e below T619 (mkF m 11 #[.val (.ref a1), .val (.int 0)] [(.ref a1)]) _
    refine st620 _ ?_
    show GO p e below T620 (mkF m 14 #[.val (.ref a1), .val (.int 0)] [(.ref t3)]) _
    refine XS.aloadN X620.here hx rfl (hb hby d4_14) rfl rfl ?_
    show GO p e below T620 (mkF m 15 #[.val (.ref a1), .val (.int 0)] [(.ref a1), (.ref t3)]) _
    refine st621 _ ?_
    show GO p e below T621 (mkF m 18 #[.val (.ref a1), .val (.int 0)] [(.int 2), (.ref t3)]) _
    refine XS.iloadN X621.here hx rfl (hb hby d4_18) rfl ?_
    show GO p e below T621 (mkF m 19 #[.val (.ref a1), .val (.int 0)] [(.int 0), (.int 2), (.ref t3)]) _
    refine XS.iadd X621.here hx rfl (hb hby d4_19) rfl ?_
    rw [show ((2 : Int32) + (0 : Int32)) = (2 : Int32) from by decide]
    show GO p e below T621 (mkF m 20 #[.val (.ref a1), .val (.int 0)] [(.int 2), (.ref t3)]) _
    refine XS.aloadN X621.here hx rfl (hb hby d4_20) rfl rfl ?_
    show GO p e below T621 (mkF m 21 #[.val (.ref a1), .val (.int 0)] [(.ref a1), (.int 2), (.ref t3)]) _
    refine st622 _ ?_
    show GO p e below T622 (mkF m 24 #[.val (.ref a1), .val (.int 0)] [(.ref t3), (.int 2), (.ref t3)]) _
    refine X622.arraylength hx (by rw [e622]; exact Ar623.1) (State.isArrayOf_alike hZ.alike Ar623.2.1) (g := (mkF m 24 #[.val (.ref a1), .val (.int 0)] [(.ref t3), (.int 2), (.ref t3)])) rfl rfl (hb hby d4_24) _ ?_
    rw [len_of S623 M623]
    show GO p e below T622 (mkF m 25 #[.val (.ref a1), .val (.int 0)] [(.int 8), (.int 2), (.ref t3)]) _
    refine XS.iconst X622.here hx rfl (hb hby d4_25) ?_
    show GO p e below T622 (mkF m 26 #[.val (.ref a1), .val (.int 0)] [(.int 1), (.int 8), (.int 2), (.ref t3)]) _
    refine XS.isub X622.here hx rfl (hb hby d4_26) rfl ?_
    rw [show ((8 : Int32) - (1 : Int32)) = (7 : Int32) from by decide]
    show GO p e below T622 (mkF m 27 #[.val (.ref a1), .val (.int 0)] [(.int 7), (.int 2), (.ref t3)]) _
    refine XS.iand X622.here hx rfl (hb hby d4_27) rfl ?_
    rw [show ((2 : Int32) &&& (7 : Int32)) = (2 : Int32) from by decide]
    show GO p e below T622 (mkF m 28 #[.val (.ref a1), .val (.int 0)] [(.int 2), (.ref t3)]) _
    refine X622.baloadBooleans hx (j := (2 : Int32)) (v := (.int x0)) (by rw [e622]; exact Ar624.1) (State.isArrayOf_alike hZ.alike Ar624.2.1) Ar624.2.2 hin624 hat624 (g := (mkF m 28 #[.val (.ref a1), .val (.int 0)] [(.int 2), (.ref t3)])) rfl rfl (hb hby d4_28) _ ?_
    exact kt
  by_cases hb626 : x0 = (0 : Int32)
  · obtain ⟨T627, X627, e627, st627⟩ := getF X622 hx hZ hown (host := "") (Or.inl (wd hw 30 rfl)) Via.refl e622 Fs (g := (mkF m 4 #[.val (.ref a1), .val (.int 1)] [(.ref a1), (.int 1)])) rfl rfl (hb hby d4_4)
    obtain ⟨T628, X628, e628, st628⟩ := getF X627 hx hZ hown (host := "") (Or.inl (wd hw 23 rfl)) Via.refl e627 F3 (g := (mkF m 11 #[.val (.ref a1), .val (.int 1)] [(.ref a1)])) rfl rfl (hb hby d4_11)
    obtain ⟨T629, X629, e629, st629⟩ := getF X628 hx hZ hown (host := "") (Or.inl (wd hw 37 rfl)) Via.refl e628 Fh (g := (mkF m 15 #[.val (.ref a1), .val (.int 1)] [(.ref a1), (.ref t3)])) rfl rfl (hb hby d4_15)
    obtain ⟨T630, X630, e630, st630⟩ := getF X629 hx hZ hown (host := "") (Or.inl (wd hw 23 rfl)) Via.refl e629 F3 (g := (mkF m 21 #[.val (.ref a1), .val (.int 1)] [(.ref a1), (.int 3), (.ref t3)])) rfl rfl (hb hby d4_21)
    obtain ⟨cl631, Ar631, -, S631, M631, -, -⟩ := id V3
    obtain ⟨cl632, Ar632, q632, S632, M632, H632, G632⟩ := id V3
    have hin632 : ¬ ((3 : Int32) < 0 ∨ cl632.slots.size ≤ ((3 : Int32)).toNatClampNeg) := inb_of S632 ⟨by decide, by decide⟩
    have hat632 : cl632.slots[((3 : Int32)).toNatClampNeg]? = some (.int x1) := Has.at H632 hin632 hx1
    have pre633 : ∀ t, Steps p.tables e below (T630.setTop (mkF m 29 #[.val (.ref a1), .val (.int 1)] [(.int x1)])) t → Steps p.tables e below (s₁.setTop (entryFrame m #[(.ref a1)] 2)) t := by
      intro t kt
      refine pre625 t ?_
      show GO p e below T622 (mkF m 29 #[.val (.ref a1), .val (.int 0)] [(.int x0)]) _
      refine XS.ifYes X622.here hx rfl (pc0 := 29) (pc' := 34) rfl (hb hby d4_29) rfl ((if0 _ _).trans (teq (hb626 : x0 = (0 : Int32))).1) (by decide) (by decide) ?_
      show GO p e below T622 (mkF m 34 #[.val (.ref a1), .val (.int 0)] []) _
      refine XS.iinc X622.here hx rfl (hb hby d4_34) rfl (l' := #[.val (.ref a1), .val (.int ((0 : Int32) + (1 : Int32)))]) rfl ?_
      rw [show ((0 : Int32) + (1 : Int32)) = (1 : Int32) from by decide]
      show GO p e below T622 (mkF m 37 #[.val (.ref a1), .val (.int 1)] []) _
      refine XS.goto X622.here hx rfl (pc0 := 37) (pc' := 2) rfl (hb hby d4_37) (by decide) (by decide) ?_
      show GO p e below T622 (mkF m 2 #[.val (.ref a1), .val (.int 1)] []) _
      refine XS.iloadN X622.here hx rfl (hb hby d4_2) rfl ?_
      show GO p e below T622 (mkF m 3 #[.val (.ref a1), .val (.int 1)] [(.int 1)]) _
      refine XS.aloadN X622.here hx rfl (hb hby d4_3) rfl rfl ?_
      show GO p e below T622 (mkF m 4 #[.val (.ref a1), .val (.int 1)] [(.ref a1), (.int 1)]) _
      refine st627 _ ?_
      show GO p e below T627 (mkF m 7 #[.val (.ref a1), .val (.int 1)] [(.int 2), (.int 1)]) _
      refine XS.icmpNo X627.here hx rfl (hb hby d4_7) rfl (tlt ((by decide) : (1 : Int32) < (2 : Int32))).2.1 ?_
      show GO p e below T627 (mkF m 10 #[.val (.ref a1), .val (.int 1)] []) _
      refine XS.aloadN X627.here hx rfl (hb hby d4_10) rfl rfl ?_
      show GO p e below T627 (mkF m 11 #[.val (.ref a1), .val (.int 1)] [(.ref a1)]) _
      refine st628 _ ?_
      show GO p e below T628 (mkF m 14 #[.val (.ref a1), .val (.int 1)] [(.ref t3)]) _
      refine XS.aloadN X628.here hx rfl (hb hby d4_14) rfl rfl ?_
      show GO p e below T628 (mkF m 15 #[.val (.ref a1), .val (.int 1)] [(.ref a1), (.ref t3)]) _
      refine st629 _ ?_
      show GO p e below T629 (mkF m 18 #[.val (.ref a1), .val (.int 1)] [(.int 2), (.ref t3)]) _
      refine XS.iloadN X629.here hx rfl (hb hby d4_18) rfl ?_
      show GO p e below T629 (mkF m 19 #[.val (.ref a1), .val (.int 1)] [(.int 1), (.int 2), (.ref t3)]) _
      refine XS.iadd X629.here hx rfl (hb hby d4_19) rfl ?_
      rw [show ((2 : Int32) + (1 : Int32)) = (3 : Int32) from by decide]
      show GO p e below T629 (mkF m 20 #[.val (.ref a1), .val (.int 1)] [(.int 3), (.ref t3)]) _
      refine XS.aloadN X629.here hx rfl (hb hby d4_20) rfl rfl ?_
      show GO p e below T629 (mkF m 21 #[.val (.ref a1), .val (.int 1)] [(.ref a1), (.int 3), (.ref t3)]) _
      refine st630 _ ?_
      show GO p e below T630 (mkF m 24 #[.val (.ref a1), .val (.int 1)] [(.ref t3), (.int 3), (.ref t3)]) _
      refine X630.arraylength hx (by rw [e630]; exact Ar631.1) (State.isArrayOf_alike hZ.alike Ar631.2.1) (g := (mkF m 24 #[.val (.ref a1), .val (.int 1)] [(.ref t3), (.int 3), (.ref t3)])) rfl rfl (hb hby d4_24) _ ?_
      rw [len_of S631 M631]
      show GO p e below T630 (mkF m 25 #[.val (.ref a1), .val (.int 1)] [(.int 8), (.int 3), (.ref t3)]) _
      refine XS.iconst X630.here hx rfl (hb hby d4_25) ?_
      show GO p e below T630 (mkF m 26 #[.val (.ref a1), .val (.int 1)] [(.int 1), (.int 8), (.int 3), (.ref t3)]) _
      refine XS.isub X630.here hx rfl (hb hby d4_26) rfl ?_
      rw [show ((8 : Int32) - (1 : Int32)) = (7 : Int32) from by decide]
      show GO p e below T630 (mkF m 27 #[.val (.ref a1), .val (.int 1)] [(.int 7), (.int 3), (.ref t3)]) _
      refine XS.iand X630.here hx rfl (hb hby d4_27) rfl ?_
      rw [show ((3 : Int32) &&& (7 : Int32)) = (3 : Int32) from by decide]
      show GO p e below T630 (mkF m 28 #[.val (.ref a1), .val (.int 1)] [(.int 3), (.ref t3)]) _
      refine X630.baloadBooleans hx (j := (3 : Int32)) (v := (.int x1)) (by rw [e630]; exact Ar632.1) (State.isArrayOf_alike hZ.alike Ar632.2.1) Ar632.2.2 hin632 hat632 (g := (mkF m 28 #[.val (.ref a1), .val (.int 1)] [(.int 3), (.ref t3)])) rfl rfl (hb hby d4_28) _ ?_
      exact kt
    by_cases hb634 : x1 = (0 : Int32)
    · obtain ⟨T635, X635, e635, st635⟩ := getF X630 hx hZ hown (host := "") (Or.inl (wd hw 30 rfl)) Via.refl e630 Fs (g := (mkF m 4 #[.val (.ref a1), .val (.int 2)] [(.ref a1), (.int 2)])) rfl rfl (hb hby d4_4)
      obtain ⟨fs, hr, hrun, hended, hW, hsame⟩ := X635.leave (v := some (.int 0)) (fun h => by rw [Bd.returns] at h; cases h)
      refine ⟨_, _, pre633 _ ?_, hrun, hended, _, _, rfl, ?_, ⟨_, rfl⟩, hW, hsame.mono (by decide) (by decide)⟩
      · show GO p e below T630 (mkF m 29 #[.val (.ref a1), .val (.int 1)] [(.int x1)]) _
        refine XS.ifYes X630.here hx rfl (pc0 := 29) (pc' := 34) rfl (hb hby d4_29) rfl ((if0 _ _).trans (teq (hb634 : x1 = (0 : Int32))).1) (by decide) (by decide) ?_
        show GO p e below T630 (mkF m 34 #[.val (.ref a1), .val (.int 1)] []) _
        refine XS.iinc X630.here hx rfl (hb hby d4_34) rfl (l' := #[.val (.ref a1), .val (.int ((1 : Int32) + (1 : Int32)))]) rfl ?_
        rw [show ((1 : Int32) + (1 : Int32)) = (2 : Int32) from by decide]
        show GO p e below T630 (mkF m 37 #[.val (.ref a1), .val (.int 2)] []) _
        refine XS.goto X630.here hx rfl (pc0 := 37) (pc' := 2) rfl (hb hby d4_37) (by decide) (by decide) ?_
        show GO p e below T630 (mkF m 2 #[.val (.ref a1), .val (.int 2)] []) _
        refine XS.iloadN X630.here hx rfl (hb hby d4_2) rfl ?_
        show GO p e below T630 (mkF m 3 #[.val (.ref a1), .val (.int 2)] [(.int 2)]) _
        refine XS.aloadN X630.here hx rfl (hb hby d4_3) rfl rfl ?_
        show GO p e below T630 (mkF m 4 #[.val (.ref a1), .val (.int 2)] [(.ref a1), (.int 2)]) _
        refine st635 _ ?_
        show GO p e below T635 (mkF m 7 #[.val (.ref a1), .val (.int 2)] [(.int 2), (.int 2)]) _
        refine XS.icmpYes X635.here hx rfl (pc0 := 7) (pc' := 40) rfl (hb hby d4_7) rfl (flt ((by decide) : ¬ ((2 : Int32) < (2 : Int32)))).2.1 (by decide) (by decide) ?_
        show GO p e below T635 (mkF m 40 #[.val (.ref a1), .val (.int 2)] []) _
        refine XS.iconst X635.here hx rfl (hb hby d4_40) ?_
        show GO p e below T635 (mkF m 41 #[.val (.ref a1), .val (.int 2)] [(.int 0)]) _
        exact retN X635 hx (t := .boolean) Bd.returns (by simp) (hb hby d4_41) hr
      · show Qrm_hold2_2 Z a1 t3 k3 vR x0 x1 h0 n0 _ T635.heap _
        rw [e635]
        exact ⟨(by simp [own_any, hb626, hb634]), N0, rfl⟩
    · obtain ⟨fs, hr, hrun, hended, hW, hsame⟩ := X630.leave (v := some (.int 1)) (fun h => by rw [Bd.returns] at h; cases h)
      refine ⟨_, _, pre633 _ ?_, hrun, hended, _, _, rfl, ?_, ⟨_, rfl⟩, hW, hsame.mono (by decide) (by decide)⟩
      · show GO p e below T630 (mkF m 29 #[.val (.ref a1), .val (.int 1)] [(.int x1)]) _
        refine XS.ifNo X630.here hx rfl (hb hby d4_29) rfl ((if0 _ _).trans (feq (hb634 : ¬ (x1 = (0 : Int32)))).1) ?_
        show GO p e below T630 (mkF m 32 #[.val (.ref a1), .val (.int 1)] []) _
        refine XS.iconst X630.here hx rfl (hb hby d4_32) ?_
        show GO p e below T630 (mkF m 33 #[.val (.ref a1), .val (.int 1)] [(.int 1)]) _
        exact retN X630 hx (t := .boolean) Bd.returns (by simp) (hb hby d4_33) hr
      · show Qrm_hold2_2 Z a1 t3 k3 vR x0 x1 h0 n0 _ T630.heap _
        rw [e630]
        exact ⟨(by simp [own_any, hb626, hb634]), N0, rfl⟩
  · obtain ⟨fs, hr, hrun, hended, hW, hsame⟩ := X622.leave (v := some (.int 1)) (fun h => by rw [Bd.returns] at h; cases h)
    refine ⟨_, _, pre625 _ ?_, hrun, hended, _, _, rfl, ?_, ⟨_, rfl⟩, hW, hsame.mono (by decide) (by decide)⟩
    · show GO p e below T622 (mkF m 29 #[.val (.ref a1), .val (.int 0)] [(.int x0)]) _
      refine XS.ifNo X622.here hx rfl (hb hby d4_29) rfl ((if0 _ _).trans (feq (hb626 : ¬ (x0 = (0 : Int32)))).1) ?_
      show GO p e below T622 (mkF m 32 #[.val (.ref a1), .val (.int 0)] []) _
      refine XS.iconst X622.here hx rfl (hb hby d4_32) ?_
      show GO p e below T622 (mkF m 33 #[.val (.ref a1), .val (.int 0)] [(.int 1)]) _
      exact retN X622 hx (t := .boolean) Bd.returns (by simp) (hb hby d4_33) hr
    · show Qrm_hold2_2 Z a1 t3 k3 vR x0 x1 h0 n0 _ T622.heap _
      rw [e622]
      exact ⟨(by simp [own_any, hb626]), N0, rfl⟩
def Qrm_hold3_0 (Z : State) (a1 : Addr) (t3 : Addr) (k3 : ClassId) (vR : List Value) (h0 : Heap) (n0 : Nat) (v : Option Value) (h : Heap) (L : List Loc) : Prop := v = some (.int (own_any [])) ∧ Fr n0 L ∧ h = h0
theorem ef_rm_hold3_0 (m : MethodId) (x0 : Addr) : entryFrame m #[(.ref x0)] 2 = mkF m 0 #[.val (.ref x0), .unset] [] := by first | rfl | (simp [entryFrame, mkF, argsToLocals, Value.category]; done)
set_option maxRecDepth 65536 in
set_option maxHeartbeats 40000000 in
theorem rm_hold3_0 (l : Launch) (Z : State) (a0 : Array Value) (hw : ∀ d ∈ tables_1, d.before a0 Z = true) (ws : List Jvm.Cond) (a1 : Addr) (t3 : Addr) (k3 : ClassId) (vR : List Value) (h0 : Heap) (n0 : Nat) (Z0 : n0 ≤ h0.size) (Fh : Fld Z h0 a1 kS0 "head" "I" (.int 3)) (Fs : Fld Z h0 a1 kS0 "size" "I" (.int 0)) (F3 : Fld Z h0 a1 kS0 "rears" "[Z" (.ref t3)) (V3 : Arv Z h0 t3 k3 .boolean (8 : Int32) vR (.int 0)) :
    MetFree l (⟨kS0, "holdsRear", "()Z"⟩ : MethodName) (head1 (Jvm.Cond.code (⟨kS0, "holdsRear", "()Z"⟩ : MethodName) prog_14_method_10_code 2 (some .boolean) :: ws) ({ frames := 0, cells := 0, slots := 0, locals := 0 } : Room)) (fun a U => a = #[(.ref a1)] ∧ Z.Warmed39 U.vm ∧ U.heap = h0) (fun _ _ _ _ _ => True) (fun _ U o U' => ∃ v L, o = .returned v ∧ Qrm_hold3_0 Z a1 t3 k3 vR h0 n0 v U'.heap L ∧ FrameEnd U o U' L ({ frames := 0, cells := 0, slots := 0, locals := 0 } : Room).cells ({ frames := 0, cells := 0, slots := 0, locals := 0 } : Room).slots) := by
  refine MetFree.of_bodySF (plainFor_of_name pn_0) hisR ?_
  intro p e s m args below meth c s₁ Bd hml0 hP hK
  obtain ⟨rfl, hZ, hh⟩ := hP
  have hx := Bd.exec
  have hby := Bd.bytes
  have hml : c.maxLocals = 2 := hml0
  have hown : s.vm.findClass kS0 = some m.cls := findClass_of_methodNamed Bd.named
  have hnm := (name_of_methodNamed Bd.named Bd.method).1
  have X0 : Stand p l e ({ frames := 0, cells := 0, slots := 0, locals := 0 } : Room) s m #[(.ref a1)] below meth c s₁ [] 0 0 := Stand.of_body Bd
  have e0 : s₁.heap = h0 := by rw [← hh, Bd.state]; rfl
  have N0 := Fr.nil n0
  have pre0 : ∀ t, Steps p.tables e below (s₁.setTop (mkF m 0 #[.val (.ref a1), .unset] [])) t → Steps p.tables e below (s₁.setTop (entryFrame m #[(.ref a1)] 2)) t := fun t k => castTop (ef_rm_hold3_0 m a1) k
  have lt_Fh := ltA Fh.lt
  have lt_Fs := ltA Fs.lt
  have lt_F3 := ltA F3.lt
  have lt_V3 := ltA V3.lt
  obtain ⟨T636, X636, e636, st636⟩ := getF X0 hx hZ hown (host := "") (Or.inl (wd hw 30 rfl)) Via.refl e0 Fs (g := (mkF m 4 #[.val (.ref a1), .val (.int 0)] [(.ref a1), (.int 0)])) rfl rfl (hb hby d4_4)
  obtain ⟨fs, hr, hrun, hended, hW, hsame⟩ := X636.leave (v := some (.int 0)) (fun h => by rw [Bd.returns] at h; cases h)
  refine ⟨_, _, pre0 _ ?_, hrun, hended, _, _, rfl, ?_, ⟨_, rfl⟩, hW, hsame.mono (by decide) (by decide)⟩
  · show GO p e below s₁ (mkF m 0 #[.val (.ref a1), .unset] []) _
    refine XS.iconst X0.here hx rfl (hb hby d4_0) ?_
    show GO p e below s₁ (mkF m 1 #[.val (.ref a1), .unset] [(.int 0)]) _
    refine XS.istoreN X0.here hx rfl (hb hby d4_1) rfl (l' := #[.val (.ref a1), .val (.int 0)]) rfl ?_
    show GO p e below s₁ (mkF m 2 #[.val (.ref a1), .val (.int 0)] []) _
    refine XS.iloadN X0.here hx rfl (hb hby d4_2) rfl ?_
    show GO p e below s₁ (mkF m 3 #[.val (.ref a1), .val (.int 0)] [(.int 0)]) _
    refine XS.aloadN X0.here hx rfl (hb hby d4_3) rfl rfl ?_
    show GO p e below s₁ (mkF m 4 #[.val (.ref a1), .val (.int 0)] [(.ref a1), (.int 0)]) _
    refine st636 _ ?_
    show GO p e below T636 (mkF m 7 #[.val (.ref a1), .val (.int 0)] [(.int 0), (.int 0)]) _
    refine XS.icmpYes X636.here hx rfl (pc0 := 7) (pc' := 40) rfl (hb hby d4_7) rfl (flt ((by decide) : ¬ ((0 : Int32) < (0 : Int32)))).2.1 (by decide) (by decide) ?_
    show GO p e below T636 (mkF m 40 #[.val (.ref a1), .val (.int 0)] []) _
    refine XS.iconst X636.here hx rfl (hb hby d4_40) ?_
    show GO p e below T636 (mkF m 41 #[.val (.ref a1), .val (.int 0)] [(.int 0)]) _
    exact retN X636 hx (t := .boolean) Bd.returns (by simp) (hb hby d4_41) hr
  · show Qrm_hold3_0 Z a1 t3 k3 vR h0 n0 _ T636.heap _
    rw [e636]
    exact ⟨(by simp [own_any]), N0, rfl⟩
def Qrm_hold3_1 (Z : State) (a1 : Addr) (t3 : Addr) (k3 : ClassId) (vR : List Value) (x0 : Int32) (h0 : Heap) (n0 : Nat) (v : Option Value) (h : Heap) (L : List Loc) : Prop := v = some (.int (own_any [x0])) ∧ Fr n0 L ∧ h = h0
theorem ef_rm_hold3_1 (m : MethodId) (x0 : Addr) : entryFrame m #[(.ref x0)] 2 = mkF m 0 #[.val (.ref x0), .unset] [] := by first | rfl | (simp [entryFrame, mkF, argsToLocals, Value.category]; done)
set_option maxRecDepth 65536 in
set_option maxHeartbeats 40000000 in
theorem rm_hold3_1 (l : Launch) (Z : State) (a0 : Array Value) (hw : ∀ d ∈ tables_1, d.before a0 Z = true) (ws : List Jvm.Cond) (a1 : Addr) (t3 : Addr) (k3 : ClassId) (vR : List Value) (x0 : Int32) (h0 : Heap) (n0 : Nat) (Z0 : n0 ≤ h0.size) (Fh : Fld Z h0 a1 kS0 "head" "I" (.int 3)) (Fs : Fld Z h0 a1 kS0 "size" "I" (.int 1)) (F3 : Fld Z h0 a1 kS0 "rears" "[Z" (.ref t3)) (V3 : Arv Z h0 t3 k3 .boolean (8 : Int32) vR (.int 0)) (hx0 : vR.getD ((3 : Int32)).toNatClampNeg (.int 0) = (.int x0)) :
    MetFree l (⟨kS0, "holdsRear", "()Z"⟩ : MethodName) (head1 (Jvm.Cond.code (⟨kS0, "holdsRear", "()Z"⟩ : MethodName) prog_14_method_10_code 2 (some .boolean) :: ws) ({ frames := 0, cells := 0, slots := 0, locals := 0 } : Room)) (fun a U => a = #[(.ref a1)] ∧ Z.Warmed39 U.vm ∧ U.heap = h0) (fun _ _ _ _ _ => True) (fun _ U o U' => ∃ v L, o = .returned v ∧ Qrm_hold3_1 Z a1 t3 k3 vR x0 h0 n0 v U'.heap L ∧ FrameEnd U o U' L ({ frames := 0, cells := 0, slots := 0, locals := 0 } : Room).cells ({ frames := 0, cells := 0, slots := 0, locals := 0 } : Room).slots) := by
  refine MetFree.of_bodySF (plainFor_of_name pn_0) hisR ?_
  intro p e s m args below meth c s₁ Bd hml0 hP hK
  obtain ⟨rfl, hZ, hh⟩ := hP
  have hx := Bd.exec
  have hby := Bd.bytes
  have hml : c.maxLocals = 2 := hml0
  have hown : s.vm.findClass kS0 = some m.cls := findClass_of_methodNamed Bd.named
  have hnm := (name_of_methodNamed Bd.named Bd.method).1
  have X0 : Stand p l e ({ frames := 0, cells := 0, slots := 0, locals := 0 } : Room) s m #[(.ref a1)] below meth c s₁ [] 0 0 := Stand.of_body Bd
  have e0 : s₁.heap = h0 := by rw [← hh, Bd.state]; rfl
  have N0 := Fr.nil n0
  have pre0 : ∀ t, Steps p.tables e below (s₁.setTop (mkF m 0 #[.val (.ref a1), .unset] [])) t → Steps p.tables e below (s₁.setTop (entryFrame m #[(.ref a1)] 2)) t := fun t k => castTop (ef_rm_hold3_1 m a1) k
  have lt_Fh := ltA Fh.lt
  have lt_Fs := ltA Fs.lt
  have lt_F3 := ltA F3.lt
  have lt_V3 := ltA V3.lt
  obtain ⟨T637, X637, e637, st637⟩ := getF X0 hx hZ hown (host := "") (Or.inl (wd hw 30 rfl)) Via.refl e0 Fs (g := (mkF m 4 #[.val (.ref a1), .val (.int 0)] [(.ref a1), (.int 0)])) rfl rfl (hb hby d4_4)
  obtain ⟨T638, X638, e638, st638⟩ := getF X637 hx hZ hown (host := "") (Or.inl (wd hw 23 rfl)) Via.refl e637 F3 (g := (mkF m 11 #[.val (.ref a1), .val (.int 0)] [(.ref a1)])) rfl rfl (hb hby d4_11)
  obtain ⟨T639, X639, e639, st639⟩ := getF X638 hx hZ hown (host := "") (Or.inl (wd hw 37 rfl)) Via.refl e638 Fh (g := (mkF m 15 #[.val (.ref a1), .val (.int 0)] [(.ref a1), (.ref t3)])) rfl rfl (hb hby d4_15)
  obtain ⟨T640, X640, e640, st640⟩ := getF X639 hx hZ hown (host := "") (Or.inl (wd hw 23 rfl)) Via.refl e639 F3 (g := (mkF m 21 #[.val (.ref a1), .val (.int 0)] [(.ref a1), (.int 3), (.ref t3)])) rfl rfl (hb hby d4_21)
  obtain ⟨cl641, Ar641, -, S641, M641, -, -⟩ := id V3
  obtain ⟨cl642, Ar642, q642, S642, M642, H642, G642⟩ := id V3
  have hin642 : ¬ ((3 : Int32) < 0 ∨ cl642.slots.size ≤ ((3 : Int32)).toNatClampNeg) := inb_of S642 ⟨by decide, by decide⟩
  have hat642 : cl642.slots[((3 : Int32)).toNatClampNeg]? = some (.int x0) := Has.at H642 hin642 hx0
  have pre643 : ∀ t, Steps p.tables e below (T640.setTop (mkF m 29 #[.val (.ref a1), .val (.int 0)] [(.int x0)])) t → Steps p.tables e below (s₁.setTop (entryFrame m #[(.ref a1)] 2)) t := by
    intro t kt
    refine pre0 t ?_
    show GO p e below s₁ (mkF m 0 #[.val (.ref a1), .unset] []) _
    refine XS.iconst X0.here hx rfl (hb hby d4_0) ?_
    show GO p e below s₁ (mkF m 1 #[.val (.ref a1), .unset] [(.int 0)]) _
    refine XS.istoreN X0.here hx rfl (hb hby d4_1) rfl (l' := #[.val (.ref a1), .val (.int 0)]) rfl ?_
    show GO p e below s₁ (mkF m 2 #[.val (.ref a1), .val (.int 0)] []) _
    refine XS.iloadN X0.here hx rfl (hb hby d4_2) rfl ?_
    show GO p e below s₁ (mkF m 3 #[.val (.ref a1), .val (.int 0)] [(.int 0)]) _
    refine XS.aloadN X0.here hx rfl (hb hby d4_3) rfl rfl ?_
    show GO p e below s₁ (mkF m 4 #[.val (.ref a1), .val (.int 0)] [(.ref a1), (.int 0)]) _
    refine st637 _ ?_
    show GO p e below T637 (mkF m 7 #[.val (.ref a1), .val (.int 0)] [(.int 1), (.int 0)]) _
    refine XS.icmpNo X637.here hx rfl (hb hby d4_7) rfl (tlt ((by decide) : (0 : Int32) < (1 : Int32))).2.1 ?_
    show GO p e below T637 (mkF m 10 #[.val (.ref a1), .val (.int 0)] []) _
    refine XS.aloadN X637.here hx rfl (hb hby d4_10) rfl rfl ?_
    show GO p e below T637 (mkF m 11 #[.val (.ref a1), .val (.int 0)] [(.ref a1)]) _
    refine st638 _ ?_
    show GO p e below T638 (mkF m 14 #[.val (.ref a1), .val (.int 0)] [(.ref t3)]) _
    refine XS.aloadN X638.here hx rfl (hb hby d4_14) rfl rfl ?_
    show GO p e below T638 (mkF m 15 #[.val (.ref a1), .val (.int 0)] [(.ref a1), (.ref t3)]) _
    refine st639 _ ?_
    show GO p e below T639 (mkF m 18 #[.val (.ref a1), .val (.int 0)] [(.int 3), (.ref t3)]) _
    refine XS.iloadN X639.here hx rfl (hb hby d4_18) rfl ?_
    show GO p e below T639 (mkF m 19 #[.val (.ref a1), .val (.int 0)] [(.int 0), (.int 3), (.ref t3)]) _
    refine XS.iadd X639.here hx rfl (hb hby d4_19) rfl ?_
    rw [show ((3 : Int32) + (0 : Int32)) = (3 : Int32) from by decide]
    show GO p e below T639 (mkF m 20 #[.val (.ref a1), .val (.int 0)] [(.int 3), (.ref t3)]) _
    refine XS.aloadN X639.here hx rfl (hb hby d4_20) rfl rfl ?_
    show GO p e below T639 (mkF m 21 #[.val (.ref a1), .val (.int 0)] [(.ref a1), (.int 3), (.ref t3)]) _
    refine st640 _ ?_
    show GO p e below T640 (mkF m 24 #[.val (.ref a1), .val (.int 0)] [(.ref t3), (.int 3), (.ref t3)]) _
    refine X640.arraylength hx (by rw [e640]; exact Ar641.1) (State.isArrayOf_alike hZ.alike Ar641.2.1) (g := (mkF m 24 #[.val (.ref a1), .val (.int 0)] [(.ref t3), (.int 3), (.ref t3)])) rfl rfl (hb hby d4_24) _ ?_
    rw [len_of S641 M641]
    show GO p e below T640 (mkF m 25 #[.val (.ref a1), .val (.int 0)] [(.int 8), (.int 3), (.ref t3)]) _
    refine XS.iconst X640.here hx rfl (hb hby d4_25) ?_
    show GO p e below T640 (mkF m 26 #[.val (.ref a1), .val (.int 0)] [(.int 1), (.int 8), (.int 3), (.ref t3)]) _
    refine XS.isub X640.here hx rfl (hb hby d4_26) rfl ?_
    rw [show ((8 : Int32) - (1 : Int32)) = (7 : Int32) from by decide]
    show GO p e below T640 (mkF m 27 #[.val (.ref a1), .val (.int 0)] [(.int 7), (.int 3), (.ref t3)]) _
    refine XS.iand X640.here hx rfl (hb hby d4_27) rfl ?_
    rw [show ((3 : Int32) &&& (7 : Int32)) = (3 : Int32) from by decide]
    show GO p e below T640 (mkF m 28 #[.val (.ref a1), .val (.int 0)] [(.int 3), (.ref t3)]) _
    refine X640.baloadBooleans hx (j := (3 : Int32)) (v := (.int x0)) (by rw [e640]; exact Ar642.1) (State.isArrayOf_alike hZ.alike Ar642.2.1) Ar642.2.2 hin642 hat642 (g := (mkF m 28 #[.val (.ref a1), .val (.int 0)] [(.int 3), (.ref t3)])) rfl rfl (hb hby d4_28) _ ?_
    exact kt
  by_cases hb644 : x0 = (0 : Int32)
  · obtain ⟨T645, X645, e645, st645⟩ := getF X640 hx hZ hown (host := "") (Or.inl (wd hw 30 rfl)) Via.refl e640 Fs (g := (mkF m 4 #[.val (.ref a1), .val (.int 1)] [(.ref a1), (.int 1)])) rfl rfl (hb hby d4_4)
    obtain ⟨fs, hr, hrun, hended, hW, hsame⟩ := X645.leave (v := some (.int 0)) (fun h => by rw [Bd.returns] at h; cases h)
    refine ⟨_, _, pre643 _ ?_, hrun, hended, _, _, rfl, ?_, ⟨_, rfl⟩, hW, hsame.mono (by decide) (by decide)⟩
    · show GO p e below T640 (mkF m 29 #[.val (.ref a1), .val (.int 0)] [(.int x0)]) _
      refine XS.ifYes X640.here hx rfl (pc0 := 29) (pc' := 34) rfl (hb hby d4_29) rfl ((if0 _ _).trans (teq (hb644 : x0 = (0 : Int32))).1) (by decide) (by decide) ?_
      show GO p e below T640 (mkF m 34 #[.val (.ref a1), .val (.int 0)] []) _
      refine XS.iinc X640.here hx rfl (hb hby d4_34) rfl (l' := #[.val (.ref a1), .val (.int ((0 : Int32) + (1 : Int32)))]) rfl ?_
      rw [show ((0 : Int32) + (1 : Int32)) = (1 : Int32) from by decide]
      show GO p e below T640 (mkF m 37 #[.val (.ref a1), .val (.int 1)] []) _
      refine XS.goto X640.here hx rfl (pc0 := 37) (pc' := 2) rfl (hb hby d4_37) (by decide) (by decide) ?_
      show GO p e below T640 (mkF m 2 #[.val (.ref a1), .val (.int 1)] []) _
      refine XS.iloadN X640.here hx rfl (hb hby d4_2) rfl ?_
      show GO p e below T640 (mkF m 3 #[.val (.ref a1), .val (.int 1)] [(.int 1)]) _
      refine XS.aloadN X640.here hx rfl (hb hby d4_3) rfl rfl ?_
      show GO p e below T640 (mkF m 4 #[.val (.ref a1), .val (.int 1)] [(.ref a1), (.int 1)]) _
      refine st645 _ ?_
      show GO p e below T645 (mkF m 7 #[.val (.ref a1), .val (.int 1)] [(.int 1), (.int 1)]) _
      refine XS.icmpYes X645.here hx rfl (pc0 := 7) (pc' := 40) rfl (hb hby d4_7) rfl (flt ((by decide) : ¬ ((1 : Int32) < (1 : Int32)))).2.1 (by decide) (by decide) ?_
      show GO p e below T645 (mkF m 40 #[.val (.ref a1), .val (.int 1)] []) _
      refine XS.iconst X645.here hx rfl (hb hby d4_40) ?_
      show GO p e below T645 (mkF m 41 #[.val (.ref a1), .val (.int 1)] [(.int 0)]) _
      exact retN X645 hx (t := .boolean) Bd.returns (by simp) (hb hby d4_41) hr
    · show Qrm_hold3_1 Z a1 t3 k3 vR x0 h0 n0 _ T645.heap _
      rw [e645]
      exact ⟨(by simp [own_any, hb644]), N0, rfl⟩
  · obtain ⟨fs, hr, hrun, hended, hW, hsame⟩ := X640.leave (v := some (.int 1)) (fun h => by rw [Bd.returns] at h; cases h)
    refine ⟨_, _, pre643 _ ?_, hrun, hended, _, _, rfl, ?_, ⟨_, rfl⟩, hW, hsame.mono (by decide) (by decide)⟩
    · show GO p e below T640 (mkF m 29 #[.val (.ref a1), .val (.int 0)] [(.int x0)]) _
      refine XS.ifNo X640.here hx rfl (hb hby d4_29) rfl ((if0 _ _).trans (feq (hb644 : ¬ (x0 = (0 : Int32)))).1) ?_
      show GO p e below T640 (mkF m 32 #[.val (.ref a1), .val (.int 0)] []) _
      refine XS.iconst X640.here hx rfl (hb hby d4_32) ?_
      show GO p e below T640 (mkF m 33 #[.val (.ref a1), .val (.int 0)] [(.int 1)]) _
      exact retN X640 hx (t := .boolean) Bd.returns (by simp) (hb hby d4_33) hr
    · show Qrm_hold3_1 Z a1 t3 k3 vR x0 h0 n0 _ T640.heap _
      rw [e640]
      exact ⟨(by simp [own_any, hb644]), N0, rfl⟩
set_option maxRecDepth 65536 in
set_option maxHeartbeats 40000000 in
theorem tail_0_0 {p : Program} {l : Launch} {e : Env} {s : State} {m : MethodId} {args : Array Value} {below : List Frame} {meth : Method} {c : Code} {T0 : State} {locs : List Loc} {Z : State} {a0 : Array Value} (p0 : Int32) (p1 : Int32) (p2 : Int32) (p3 : Int32) (p4 : Int32) (p5 : Int32) (r0 : Int32) (r1 : Int32) (r2 : Int32) (r3 : Int32) (b : Addr) (t3 : Addr) (k3 : ClassId) {h0 : Heap} {n0 : Nat}
    (X0 : Stand p l e room_1 s m args below meth c T0 locs 5 39) (hx : p.tables.exec = Jvm.exec) (hZ : Z.Warmed39 s.vm) (hw : ∀ d ∈ tables_1, d.before a0 Z = true) (hby : c.code = code) (hml : c.maxLocals = 14) (hown : s.vm.findClass "com/example/occupancy/occupancy/loading/BlockHoldsRearPinLaw" = some m.cls) (e0 : T0.heap = h0) (N0 : Fr n0 locs) (Z0 : n0 ≤ h0.size) (E1 : Exa Z h0 b kS0) (Fh : Fld Z h0 b kS0 "head" "I" (.int 0)) (Fs : Fld Z h0 b kS0 "size" "I" (.int 0)) (F3 : Fld Z h0 b kS0 "rears" "[Z" (.ref t3)) (V3 : Arv Z h0 t3 k3 .boolean (8 : Int32) [(.int 0), (.int 0), (.int 0), (.int 0), (.int 0), (.int 0), (.int 0), (.int 0)] (.int 0)) (hb0 : nar .boolean r0 = r0) (hb1 : nar .boolean r1 = r1) (hb2 : nar .boolean r2 = r2) (hb3 : nar .boolean r3 = r3) :
    ∃ vv : Int32, ∃ (T' : State) (h' : Heap) (locs' : List Loc), Stand p l e room_1 s m args below meth c T' locs' 5 39 ∧ T'.heap = h' ∧ Fr n0 locs' ∧
      ∀ target, Steps p.tables e below (T'.setTop (mkF m 298 (la6 p0 p1 p2 p3 p4 p5 (0 : Int32) (0 : Int32) r0 r1 r2 r3 b vv) [(.int 1)])) target → Steps p.tables e below (T0.setTop (mkF m 210 (la5 p0 p1 p2 p3 p4 p5 (0 : Int32) (0 : Int32) r0 r1 r2 r3 b) [])) target := by
  have pre0 : ∀ t, Steps p.tables e below (T0.setTop (mkF m 210 (la5 p0 p1 p2 p3 p4 p5 (0 : Int32) (0 : Int32) r0 r1 r2 r3 b) [])) t → Steps p.tables e below (T0.setTop (mkF m 210 (la5 p0 p1 p2 p3 p4 p5 (0 : Int32) (0 : Int32) r0 r1 r2 r3 b) [])) t := fun _ k => k
  have lt_E1 := ltA E1.lt
  have lt_Fh := ltA Fh.lt
  have lt_Fs := ltA Fs.lt
  have lt_F3 := ltA F3.lt
  have lt_V3 := ltA V3.lt
  obtain ⟨vv, hvv, pre646⟩ : ∃ vv : Int32, (vv = own_any []) ∧ ∀ t, Steps p.tables e below (T0.setTop (mkF m 281 (la5 p0 p1 p2 p3 p4 p5 (0 : Int32) (0 : Int32) r0 r1 r2 r3 b) [(.int vv)])) t → Steps p.tables e below (T0.setTop (mkF m 210 (la5 p0 p1 p2 p3 p4 p5 (0 : Int32) (0 : Int32) r0 r1 r2 r3 b) [])) t := by
    have pre647 : ∀ t, Steps p.tables e below (T0.setTop (mkF m 281 (la5 p0 p1 p2 p3 p4 p5 (0 : Int32) (0 : Int32) r0 r1 r2 r3 b) [(.int 0)])) t → Steps p.tables e below (T0.setTop (mkF m 210 (la5 p0 p1 p2 p3 p4 p5 (0 : Int32) (0 : Int32) r0 r1 r2 r3 b) [])) t := by
      intro t kt
      refine pre0 t ?_
      show GO p e below T0 (mkF m 210 (la5 p0 p1 p2 p3 p4 p5 (0 : Int32) (0 : Int32) r0 r1 r2 r3 b) []) _
      refine XS.iload X0.here hx rfl (hb hby at_210) rfl ?_
      show GO p e below T0 (mkF m 212 (la5 p0 p1 p2 p3 p4 p5 (0 : Int32) (0 : Int32) r0 r1 r2 r3 b) [(.int 0)]) _
      refine XS.ifYes X0.here hx rfl (pc0 := 212) (pc' := 225) rfl (hb hby at_212) rfl ((if0 _ _).trans (flt ((by decide) : ¬ ((0 : Int32) < (0 : Int32)))).2.2.2) (by decide) (by decide) ?_
      show GO p e below T0 (mkF m 225 (la5 p0 p1 p2 p3 p4 p5 (0 : Int32) (0 : Int32) r0 r1 r2 r3 b) []) _
      refine XS.iload X0.here hx rfl (hb hby at_225) rfl ?_
      show GO p e below T0 (mkF m 227 (la5 p0 p1 p2 p3 p4 p5 (0 : Int32) (0 : Int32) r0 r1 r2 r3 b) [(.int 0)]) _
      refine XS.iconst X0.here hx rfl (hb hby at_227) ?_
      show GO p e below T0 (mkF m 228 (la5 p0 p1 p2 p3 p4 p5 (0 : Int32) (0 : Int32) r0 r1 r2 r3 b) [(.int 1), (.int 0)]) _
      refine XS.icmpYes X0.here hx rfl (pc0 := 228) (pc' := 242) rfl (hb hby at_228) rfl (flt ((by decide) : ¬ ((1 : Int32) < (0 : Int32)))).2.2.2 (by decide) (by decide) ?_
      show GO p e below T0 (mkF m 242 (la5 p0 p1 p2 p3 p4 p5 (0 : Int32) (0 : Int32) r0 r1 r2 r3 b) []) _
      refine XS.iload X0.here hx rfl (hb hby at_242) rfl ?_
      show GO p e below T0 (mkF m 244 (la5 p0 p1 p2 p3 p4 p5 (0 : Int32) (0 : Int32) r0 r1 r2 r3 b) [(.int 0)]) _
      refine XS.iconst X0.here hx rfl (hb hby at_244) ?_
      show GO p e below T0 (mkF m 245 (la5 p0 p1 p2 p3 p4 p5 (0 : Int32) (0 : Int32) r0 r1 r2 r3 b) [(.int 2), (.int 0)]) _
      refine XS.icmpYes X0.here hx rfl (pc0 := 245) (pc' := 259) rfl (hb hby at_245) rfl (flt ((by decide) : ¬ ((2 : Int32) < (0 : Int32)))).2.2.2 (by decide) (by decide) ?_
      show GO p e below T0 (mkF m 259 (la5 p0 p1 p2 p3 p4 p5 (0 : Int32) (0 : Int32) r0 r1 r2 r3 b) []) _
      refine XS.iload X0.here hx rfl (hb hby at_259) rfl ?_
      show GO p e below T0 (mkF m 261 (la5 p0 p1 p2 p3 p4 p5 (0 : Int32) (0 : Int32) r0 r1 r2 r3 b) [(.int 0)]) _
      refine XS.iconst X0.here hx rfl (hb hby at_261) ?_
      show GO p e below T0 (mkF m 262 (la5 p0 p1 p2 p3 p4 p5 (0 : Int32) (0 : Int32) r0 r1 r2 r3 b) [(.int 3), (.int 0)]) _
      refine XS.icmpYes X0.here hx rfl (pc0 := 262) (pc' := 280) rfl (hb hby at_262) rfl (flt ((by decide) : ¬ ((3 : Int32) < (0 : Int32)))).2.2.2 (by decide) (by decide) ?_
      show GO p e below T0 (mkF m 280 (la5 p0 p1 p2 p3 p4 p5 (0 : Int32) (0 : Int32) r0 r1 r2 r3 b) []) _
      refine XS.iconst X0.here hx rfl (hb hby at_280) ?_
      exact kt
    exact ⟨(0 : Int32), (by simp [own_any]), fun t kt => pre647 t kt⟩
  -- pc 285: Block.holdsRear by rm_hold0_0
  obtain ⟨cq648, kq648, q648a, q648b, q648c⟩ := isOf hZ e0 E1
  obtain ⟨_, _, ⟨T648, L648, k648, n648⟩, -, X648, ⟨Lc648, hQ648, l648, y648, z648⟩, st648⟩ := X0.virtualBack hx (y := (⟨kS0, "holdsRear", "()Z"⟩ : MethodName)) (z := (⟨kS0, "holdsRear", "()Z"⟩ : MethodName)) hown (mvT hZ (wd hw 25 rfl)) (mvT hZ (wd hw 26 rfl)) (notFace_of_selects (args := #[]) (mvT hZ (wd hw 28 rfl))) (mvT hZ (wd hw 28 rfl)) (mvT hZ (wd hw 27 rfl)) (by decide) (backOf (W := 0) (rm_hold0_0 l Z a0 hw [] b t3 k3 ([(.int 0), (.int 0), (.int 0), (.int 0), (.int 0), (.int 0), (.int 0), (.int 0)]) h0 n0 (by omega) Fh Fs F3 V3) hZ (wd hw 29 rfl) (wd hw 7 rfl) (by decide) (by decide)) q648a q648c (g := (mkF m 285 (la6 p0 p1 p2 p3 p4 p5 (0 : Int32) (0 : Int32) r0 r1 r2 r3 b vv) [(.ref b)])) rfl (by rw [hml]; rfl) (Steps.refl _) (argsL := []) (rest := []) (lenOf pd_0 rfl) rfl (by show 2 * 0 + _ ≤ _; exact Nat.le_of_eq rfl) (hb hby at_285) (fun _ _ => ⟨rfl, e0, (by decide : 5 + 0 ≤ _), (by decide : 39 + 0 ≤ _)⟩)
  dsimp only [Pt.U, Pt.locs, Pt.cells, Pt.slots] at X648 l648 y648 z648 st648 hQ648
  subst l648 y648 z648
  obtain ⟨rfl, N648q, e648⟩ := hQ648
  have N648 := Fr.app N0 N648q
  have pre649 : ∀ t, Steps p.tables e below (T648.setTop (mkF m 298 (la6 p0 p1 p2 p3 p4 p5 (0 : Int32) (0 : Int32) r0 r1 r2 r3 b vv) [(.int 1)])) t → Steps p.tables e below (T0.setTop (mkF m 210 (la5 p0 p1 p2 p3 p4 p5 (0 : Int32) (0 : Int32) r0 r1 r2 r3 b) [])) t := by
    intro t kt
    refine pre646 t ?_
    show GO p e below T0 (mkF m 281 (la5 p0 p1 p2 p3 p4 p5 (0 : Int32) (0 : Int32) r0 r1 r2 r3 b) [(.int vv)]) _
    refine XS.istore X0.here hx rfl (hb hby at_281) rfl (l' := (la6 p0 p1 p2 p3 p4 p5 (0 : Int32) (0 : Int32) r0 r1 r2 r3 b vv)) rfl ?_
    show GO p e below T0 (mkF m 283 (la6 p0 p1 p2 p3 p4 p5 (0 : Int32) (0 : Int32) r0 r1 r2 r3 b vv) []) _
    refine XS.aload X0.here hx rfl (hb hby at_283) rfl rfl ?_
    show GO p e below T0 (mkF m 285 (la6 p0 p1 p2 p3 p4 p5 (0 : Int32) (0 : Int32) r0 r1 r2 r3 b vv) [(.ref b)]) _
    refine st648.trans ?_
    show GO p e below T648 (mkF m 288 (la6 p0 p1 p2 p3 p4 p5 (0 : Int32) (0 : Int32) r0 r1 r2 r3 b vv) [(.int (own_any []))]) _
    refine XS.iload X648.here hx rfl (hb hby at_288) rfl ?_
    show GO p e below T648 (mkF m 290 (la6 p0 p1 p2 p3 p4 p5 (0 : Int32) (0 : Int32) r0 r1 r2 r3 b vv) [(.int vv), (.int (own_any []))]) _
    refine XS.icmpNo X648.here hx rfl (hb hby at_290) rfl (teq ((by simp only [hvv, hb0, hb1, hb2, hb3]) : (own_any []) = vv)).2 ?_
    show GO p e below T648 (mkF m 293 (la6 p0 p1 p2 p3 p4 p5 (0 : Int32) (0 : Int32) r0 r1 r2 r3 b vv) []) _
    refine XS.iconst X648.here hx rfl (hb hby at_293) ?_
    show GO p e below T648 (mkF m 294 (la6 p0 p1 p2 p3 p4 p5 (0 : Int32) (0 : Int32) r0 r1 r2 r3 b vv) [(.int 1)]) _
    refine XS.goto X648.here hx rfl (pc0 := 294) (pc' := 298) rfl (hb hby at_294) (by decide) (by decide) ?_
    exact kt
  exact ⟨vv, T648, h0, _, X648.mono (by decide) (by decide), e648, N648, fun t kt => pre649 t kt⟩
set_option maxRecDepth 65536 in
set_option maxHeartbeats 40000000 in
theorem tail_1_0 {p : Program} {l : Launch} {e : Env} {s : State} {m : MethodId} {args : Array Value} {below : List Frame} {meth : Method} {c : Code} {T0 : State} {locs : List Loc} {Z : State} {a0 : Array Value} (p0 : Int32) (p1 : Int32) (p2 : Int32) (p3 : Int32) (p4 : Int32) (p5 : Int32) (r0 : Int32) (r1 : Int32) (r2 : Int32) (r3 : Int32) (b : Addr) (t3 : Addr) (k3 : ClassId) {h0 : Heap} {n0 : Nat}
    (X0 : Stand p l e room_1 s m args below meth c T0 locs 5 39) (hx : p.tables.exec = Jvm.exec) (hZ : Z.Warmed39 s.vm) (hw : ∀ d ∈ tables_1, d.before a0 Z = true) (hby : c.code = code) (hml : c.maxLocals = 14) (hown : s.vm.findClass "com/example/occupancy/occupancy/loading/BlockHoldsRearPinLaw" = some m.cls) (e0 : T0.heap = h0) (N0 : Fr n0 locs) (Z0 : n0 ≤ h0.size) (E1 : Exa Z h0 b kS0) (Fh : Fld Z h0 b kS0 "head" "I" (.int 0)) (Fs : Fld Z h0 b kS0 "size" "I" (.int 1)) (F3 : Fld Z h0 b kS0 "rears" "[Z" (.ref t3)) (V3 : Arv Z h0 t3 k3 .boolean (8 : Int32) [(.int (nar .boolean r0)), (.int 0), (.int 0), (.int 0), (.int 0), (.int 0), (.int 0), (.int 0)] (.int 0)) (hb0 : nar .boolean r0 = r0) (hb1 : nar .boolean r1 = r1) (hb2 : nar .boolean r2 = r2) (hb3 : nar .boolean r3 = r3) :
    ∃ vv : Int32, ∃ (T' : State) (h' : Heap) (locs' : List Loc), Stand p l e room_1 s m args below meth c T' locs' 5 39 ∧ T'.heap = h' ∧ Fr n0 locs' ∧
      ∀ target, Steps p.tables e below (T'.setTop (mkF m 298 (la6 p0 p1 p2 p3 p4 p5 (1 : Int32) (0 : Int32) r0 r1 r2 r3 b vv) [(.int 1)])) target → Steps p.tables e below (T0.setTop (mkF m 210 (la5 p0 p1 p2 p3 p4 p5 (1 : Int32) (0 : Int32) r0 r1 r2 r3 b) [])) target := by
  have pre0 : ∀ t, Steps p.tables e below (T0.setTop (mkF m 210 (la5 p0 p1 p2 p3 p4 p5 (1 : Int32) (0 : Int32) r0 r1 r2 r3 b) [])) t → Steps p.tables e below (T0.setTop (mkF m 210 (la5 p0 p1 p2 p3 p4 p5 (1 : Int32) (0 : Int32) r0 r1 r2 r3 b) [])) t := fun _ k => k
  have lt_E1 := ltA E1.lt
  have lt_Fh := ltA Fh.lt
  have lt_Fs := ltA Fs.lt
  have lt_F3 := ltA F3.lt
  have lt_V3 := ltA V3.lt
  obtain ⟨vv, hvv, pre650⟩ : ∃ vv : Int32, (vv = own_any [r0]) ∧ ∀ t, Steps p.tables e below (T0.setTop (mkF m 281 (la5 p0 p1 p2 p3 p4 p5 (1 : Int32) (0 : Int32) r0 r1 r2 r3 b) [(.int vv)])) t → Steps p.tables e below (T0.setTop (mkF m 210 (la5 p0 p1 p2 p3 p4 p5 (1 : Int32) (0 : Int32) r0 r1 r2 r3 b) [])) t := by
    have pre651 : ∀ t, Steps p.tables e below (T0.setTop (mkF m 222 (la5 p0 p1 p2 p3 p4 p5 (1 : Int32) (0 : Int32) r0 r1 r2 r3 b) [(.int r0)])) t → Steps p.tables e below (T0.setTop (mkF m 210 (la5 p0 p1 p2 p3 p4 p5 (1 : Int32) (0 : Int32) r0 r1 r2 r3 b) [])) t := by
      intro t kt
      refine pre0 t ?_
      show GO p e below T0 (mkF m 210 (la5 p0 p1 p2 p3 p4 p5 (1 : Int32) (0 : Int32) r0 r1 r2 r3 b) []) _
      refine XS.iload X0.here hx rfl (hb hby at_210) rfl ?_
      show GO p e below T0 (mkF m 212 (la5 p0 p1 p2 p3 p4 p5 (1 : Int32) (0 : Int32) r0 r1 r2 r3 b) [(.int 1)]) _
      refine XS.ifNo X0.here hx rfl (hb hby at_212) rfl ((if0 _ _).trans (tlt ((by decide) : (0 : Int32) < (1 : Int32))).2.2.2) ?_
      show GO p e below T0 (mkF m 215 (la5 p0 p1 p2 p3 p4 p5 (1 : Int32) (0 : Int32) r0 r1 r2 r3 b) []) _
      refine XS.iload X0.here hx rfl (hb hby at_215) rfl ?_
      show GO p e below T0 (mkF m 217 (la5 p0 p1 p2 p3 p4 p5 (1 : Int32) (0 : Int32) r0 r1 r2 r3 b) [(.int 0)]) _
      refine XS.ifNo X0.here hx rfl (hb hby at_217) rfl ((if0 _ _).trans (flt ((by decide) : ¬ ((0 : Int32) < (0 : Int32)))).2.2.1) ?_
      show GO p e below T0 (mkF m 220 (la5 p0 p1 p2 p3 p4 p5 (1 : Int32) (0 : Int32) r0 r1 r2 r3 b) []) _
      refine XS.iload X0.here hx rfl (hb hby at_220) rfl ?_
      exact kt
    by_cases hb652 : r0 = (0 : Int32)
    · have pre653 : ∀ t, Steps p.tables e below (T0.setTop (mkF m 281 (la5 p0 p1 p2 p3 p4 p5 (1 : Int32) (0 : Int32) r0 r1 r2 r3 b) [(.int 0)])) t → Steps p.tables e below (T0.setTop (mkF m 210 (la5 p0 p1 p2 p3 p4 p5 (1 : Int32) (0 : Int32) r0 r1 r2 r3 b) [])) t := by
        intro t kt
        refine pre651 t ?_
        show GO p e below T0 (mkF m 222 (la5 p0 p1 p2 p3 p4 p5 (1 : Int32) (0 : Int32) r0 r1 r2 r3 b) [(.int r0)]) _
        refine XS.ifNo X0.here hx rfl (hb hby at_222) rfl ((if0 _ _).trans (teq (hb652 : r0 = (0 : Int32))).2) ?_
        show GO p e below T0 (mkF m 225 (la5 p0 p1 p2 p3 p4 p5 (1 : Int32) (0 : Int32) r0 r1 r2 r3 b) []) _
        refine XS.iload X0.here hx rfl (hb hby at_225) rfl ?_
        show GO p e below T0 (mkF m 227 (la5 p0 p1 p2 p3 p4 p5 (1 : Int32) (0 : Int32) r0 r1 r2 r3 b) [(.int 1)]) _
        refine XS.iconst X0.here hx rfl (hb hby at_227) ?_
        show GO p e below T0 (mkF m 228 (la5 p0 p1 p2 p3 p4 p5 (1 : Int32) (0 : Int32) r0 r1 r2 r3 b) [(.int 1), (.int 1)]) _
        refine XS.icmpYes X0.here hx rfl (pc0 := 228) (pc' := 242) rfl (hb hby at_228) rfl (flt ((by decide) : ¬ ((1 : Int32) < (1 : Int32)))).2.2.2 (by decide) (by decide) ?_
        show GO p e below T0 (mkF m 242 (la5 p0 p1 p2 p3 p4 p5 (1 : Int32) (0 : Int32) r0 r1 r2 r3 b) []) _
        refine XS.iload X0.here hx rfl (hb hby at_242) rfl ?_
        show GO p e below T0 (mkF m 244 (la5 p0 p1 p2 p3 p4 p5 (1 : Int32) (0 : Int32) r0 r1 r2 r3 b) [(.int 1)]) _
        refine XS.iconst X0.here hx rfl (hb hby at_244) ?_
        show GO p e below T0 (mkF m 245 (la5 p0 p1 p2 p3 p4 p5 (1 : Int32) (0 : Int32) r0 r1 r2 r3 b) [(.int 2), (.int 1)]) _
        refine XS.icmpYes X0.here hx rfl (pc0 := 245) (pc' := 259) rfl (hb hby at_245) rfl (flt ((by decide) : ¬ ((2 : Int32) < (1 : Int32)))).2.2.2 (by decide) (by decide) ?_
        show GO p e below T0 (mkF m 259 (la5 p0 p1 p2 p3 p4 p5 (1 : Int32) (0 : Int32) r0 r1 r2 r3 b) []) _
        refine XS.iload X0.here hx rfl (hb hby at_259) rfl ?_
        show GO p e below T0 (mkF m 261 (la5 p0 p1 p2 p3 p4 p5 (1 : Int32) (0 : Int32) r0 r1 r2 r3 b) [(.int 1)]) _
        refine XS.iconst X0.here hx rfl (hb hby at_261) ?_
        show GO p e below T0 (mkF m 262 (la5 p0 p1 p2 p3 p4 p5 (1 : Int32) (0 : Int32) r0 r1 r2 r3 b) [(.int 3), (.int 1)]) _
        refine XS.icmpYes X0.here hx rfl (pc0 := 262) (pc' := 280) rfl (hb hby at_262) rfl (flt ((by decide) : ¬ ((3 : Int32) < (1 : Int32)))).2.2.2 (by decide) (by decide) ?_
        show GO p e below T0 (mkF m 280 (la5 p0 p1 p2 p3 p4 p5 (1 : Int32) (0 : Int32) r0 r1 r2 r3 b) []) _
        refine XS.iconst X0.here hx rfl (hb hby at_280) ?_
        exact kt
      exact ⟨(0 : Int32), (by simp [own_any, hb652]), fun t kt => pre653 t kt⟩
    · have pre654 : ∀ t, Steps p.tables e below (T0.setTop (mkF m 281 (la5 p0 p1 p2 p3 p4 p5 (1 : Int32) (0 : Int32) r0 r1 r2 r3 b) [(.int 1)])) t → Steps p.tables e below (T0.setTop (mkF m 210 (la5 p0 p1 p2 p3 p4 p5 (1 : Int32) (0 : Int32) r0 r1 r2 r3 b) [])) t := by
        intro t kt
        refine pre651 t ?_
        show GO p e below T0 (mkF m 222 (la5 p0 p1 p2 p3 p4 p5 (1 : Int32) (0 : Int32) r0 r1 r2 r3 b) [(.int r0)]) _
        refine XS.ifYes X0.here hx rfl (pc0 := 222) (pc' := 276) rfl (hb hby at_222) rfl ((if0 _ _).trans (feq (hb652 : ¬ (r0 = (0 : Int32)))).2) (by decide) (by decide) ?_
        show GO p e below T0 (mkF m 276 (la5 p0 p1 p2 p3 p4 p5 (1 : Int32) (0 : Int32) r0 r1 r2 r3 b) []) _
        refine XS.iconst X0.here hx rfl (hb hby at_276) ?_
        show GO p e below T0 (mkF m 277 (la5 p0 p1 p2 p3 p4 p5 (1 : Int32) (0 : Int32) r0 r1 r2 r3 b) [(.int 1)]) _
        refine XS.goto X0.here hx rfl (pc0 := 277) (pc' := 281) rfl (hb hby at_277) (by decide) (by decide) ?_
        exact kt
      exact ⟨(1 : Int32), (by simp [own_any, hb652]), fun t kt => pre654 t kt⟩
  -- pc 285: Block.holdsRear by rm_hold0_1
  obtain ⟨cq655, kq655, q655a, q655b, q655c⟩ := isOf hZ e0 E1
  obtain ⟨_, _, ⟨T655, L655, k655, n655⟩, -, X655, ⟨Lc655, hQ655, l655, y655, z655⟩, st655⟩ := X0.virtualBack hx (y := (⟨kS0, "holdsRear", "()Z"⟩ : MethodName)) (z := (⟨kS0, "holdsRear", "()Z"⟩ : MethodName)) hown (mvT hZ (wd hw 25 rfl)) (mvT hZ (wd hw 26 rfl)) (notFace_of_selects (args := #[]) (mvT hZ (wd hw 28 rfl))) (mvT hZ (wd hw 28 rfl)) (mvT hZ (wd hw 27 rfl)) (by decide) (backOf (W := 0) (rm_hold0_1 l Z a0 hw [] b t3 k3 ([(.int (nar .boolean r0)), (.int 0), (.int 0), (.int 0), (.int 0), (.int 0), (.int 0), (.int 0)]) (nar .boolean r0) h0 n0 (by omega) Fh Fs F3 V3 rfl) hZ (wd hw 29 rfl) (wd hw 7 rfl) (by decide) (by decide)) q655a q655c (g := (mkF m 285 (la6 p0 p1 p2 p3 p4 p5 (1 : Int32) (0 : Int32) r0 r1 r2 r3 b vv) [(.ref b)])) rfl (by rw [hml]; rfl) (Steps.refl _) (argsL := []) (rest := []) (lenOf pd_0 rfl) rfl (by show 2 * 0 + _ ≤ _; exact Nat.le_of_eq rfl) (hb hby at_285) (fun _ _ => ⟨rfl, e0, (by decide : 5 + 0 ≤ _), (by decide : 39 + 0 ≤ _)⟩)
  dsimp only [Pt.U, Pt.locs, Pt.cells, Pt.slots] at X655 l655 y655 z655 st655 hQ655
  subst l655 y655 z655
  obtain ⟨rfl, N655q, e655⟩ := hQ655
  have N655 := Fr.app N0 N655q
  have pre656 : ∀ t, Steps p.tables e below (T655.setTop (mkF m 298 (la6 p0 p1 p2 p3 p4 p5 (1 : Int32) (0 : Int32) r0 r1 r2 r3 b vv) [(.int 1)])) t → Steps p.tables e below (T0.setTop (mkF m 210 (la5 p0 p1 p2 p3 p4 p5 (1 : Int32) (0 : Int32) r0 r1 r2 r3 b) [])) t := by
    intro t kt
    refine pre650 t ?_
    show GO p e below T0 (mkF m 281 (la5 p0 p1 p2 p3 p4 p5 (1 : Int32) (0 : Int32) r0 r1 r2 r3 b) [(.int vv)]) _
    refine XS.istore X0.here hx rfl (hb hby at_281) rfl (l' := (la6 p0 p1 p2 p3 p4 p5 (1 : Int32) (0 : Int32) r0 r1 r2 r3 b vv)) rfl ?_
    show GO p e below T0 (mkF m 283 (la6 p0 p1 p2 p3 p4 p5 (1 : Int32) (0 : Int32) r0 r1 r2 r3 b vv) []) _
    refine XS.aload X0.here hx rfl (hb hby at_283) rfl rfl ?_
    show GO p e below T0 (mkF m 285 (la6 p0 p1 p2 p3 p4 p5 (1 : Int32) (0 : Int32) r0 r1 r2 r3 b vv) [(.ref b)]) _
    refine st655.trans ?_
    show GO p e below T655 (mkF m 288 (la6 p0 p1 p2 p3 p4 p5 (1 : Int32) (0 : Int32) r0 r1 r2 r3 b vv) [(.int (own_any [(nar .boolean r0)]))]) _
    refine XS.iload X655.here hx rfl (hb hby at_288) rfl ?_
    show GO p e below T655 (mkF m 290 (la6 p0 p1 p2 p3 p4 p5 (1 : Int32) (0 : Int32) r0 r1 r2 r3 b vv) [(.int vv), (.int (own_any [(nar .boolean r0)]))]) _
    refine XS.icmpNo X655.here hx rfl (hb hby at_290) rfl (teq ((by simp only [hvv, hb0, hb1, hb2, hb3]) : (own_any [(nar .boolean r0)]) = vv)).2 ?_
    show GO p e below T655 (mkF m 293 (la6 p0 p1 p2 p3 p4 p5 (1 : Int32) (0 : Int32) r0 r1 r2 r3 b vv) []) _
    refine XS.iconst X655.here hx rfl (hb hby at_293) ?_
    show GO p e below T655 (mkF m 294 (la6 p0 p1 p2 p3 p4 p5 (1 : Int32) (0 : Int32) r0 r1 r2 r3 b vv) [(.int 1)]) _
    refine XS.goto X655.here hx rfl (pc0 := 294) (pc' := 298) rfl (hb hby at_294) (by decide) (by decide) ?_
    exact kt
  exact ⟨vv, T655, h0, _, X655.mono (by decide) (by decide), e655, N655, fun t kt => pre656 t kt⟩
set_option maxRecDepth 65536 in
set_option maxHeartbeats 40000000 in
theorem tail_1_1 {p : Program} {l : Launch} {e : Env} {s : State} {m : MethodId} {args : Array Value} {below : List Frame} {meth : Method} {c : Code} {T0 : State} {locs : List Loc} {Z : State} {a0 : Array Value} (p0 : Int32) (p1 : Int32) (p2 : Int32) (p3 : Int32) (p4 : Int32) (p5 : Int32) (r0 : Int32) (r1 : Int32) (r2 : Int32) (r3 : Int32) (b : Addr) (t3 : Addr) (k3 : ClassId) {h0 : Heap} {n0 : Nat}
    (X0 : Stand p l e room_1 s m args below meth c T0 locs 5 39) (hx : p.tables.exec = Jvm.exec) (hZ : Z.Warmed39 s.vm) (hw : ∀ d ∈ tables_1, d.before a0 Z = true) (hby : c.code = code) (hml : c.maxLocals = 14) (hown : s.vm.findClass "com/example/occupancy/occupancy/loading/BlockHoldsRearPinLaw" = some m.cls) (e0 : T0.heap = h0) (N0 : Fr n0 locs) (Z0 : n0 ≤ h0.size) (E1 : Exa Z h0 b kS0) (Fh : Fld Z h0 b kS0 "head" "I" (.int 1)) (Fs : Fld Z h0 b kS0 "size" "I" (.int 0)) (F3 : Fld Z h0 b kS0 "rears" "[Z" (.ref t3)) (V3 : Arv Z h0 t3 k3 .boolean (8 : Int32) [(.int (nar .boolean r0)), (.int 0), (.int 0), (.int 0), (.int 0), (.int 0), (.int 0), (.int 0)] (.int 0)) (hb0 : nar .boolean r0 = r0) (hb1 : nar .boolean r1 = r1) (hb2 : nar .boolean r2 = r2) (hb3 : nar .boolean r3 = r3) :
    ∃ vv : Int32, ∃ (T' : State) (h' : Heap) (locs' : List Loc), Stand p l e room_1 s m args below meth c T' locs' 5 39 ∧ T'.heap = h' ∧ Fr n0 locs' ∧
      ∀ target, Steps p.tables e below (T'.setTop (mkF m 298 (la6 p0 p1 p2 p3 p4 p5 (1 : Int32) (1 : Int32) r0 r1 r2 r3 b vv) [(.int 1)])) target → Steps p.tables e below (T0.setTop (mkF m 210 (la5 p0 p1 p2 p3 p4 p5 (1 : Int32) (1 : Int32) r0 r1 r2 r3 b) [])) target := by
  have pre0 : ∀ t, Steps p.tables e below (T0.setTop (mkF m 210 (la5 p0 p1 p2 p3 p4 p5 (1 : Int32) (1 : Int32) r0 r1 r2 r3 b) [])) t → Steps p.tables e below (T0.setTop (mkF m 210 (la5 p0 p1 p2 p3 p4 p5 (1 : Int32) (1 : Int32) r0 r1 r2 r3 b) [])) t := fun _ k => k
  have lt_E1 := ltA E1.lt
  have lt_Fh := ltA Fh.lt
  have lt_Fs := ltA Fs.lt
  have lt_F3 := ltA F3.lt
  have lt_V3 := ltA V3.lt
  obtain ⟨vv, hvv, pre657⟩ : ∃ vv : Int32, (vv = own_any []) ∧ ∀ t, Steps p.tables e below (T0.setTop (mkF m 281 (la5 p0 p1 p2 p3 p4 p5 (1 : Int32) (1 : Int32) r0 r1 r2 r3 b) [(.int vv)])) t → Steps p.tables e below (T0.setTop (mkF m 210 (la5 p0 p1 p2 p3 p4 p5 (1 : Int32) (1 : Int32) r0 r1 r2 r3 b) [])) t := by
    have pre658 : ∀ t, Steps p.tables e below (T0.setTop (mkF m 281 (la5 p0 p1 p2 p3 p4 p5 (1 : Int32) (1 : Int32) r0 r1 r2 r3 b) [(.int 0)])) t → Steps p.tables e below (T0.setTop (mkF m 210 (la5 p0 p1 p2 p3 p4 p5 (1 : Int32) (1 : Int32) r0 r1 r2 r3 b) [])) t := by
      intro t kt
      refine pre0 t ?_
      show GO p e below T0 (mkF m 210 (la5 p0 p1 p2 p3 p4 p5 (1 : Int32) (1 : Int32) r0 r1 r2 r3 b) []) _
      refine XS.iload X0.here hx rfl (hb hby at_210) rfl ?_
      show GO p e below T0 (mkF m 212 (la5 p0 p1 p2 p3 p4 p5 (1 : Int32) (1 : Int32) r0 r1 r2 r3 b) [(.int 1)]) _
      refine XS.ifNo X0.here hx rfl (hb hby at_212) rfl ((if0 _ _).trans (tlt ((by decide) : (0 : Int32) < (1 : Int32))).2.2.2) ?_
      show GO p e below T0 (mkF m 215 (la5 p0 p1 p2 p3 p4 p5 (1 : Int32) (1 : Int32) r0 r1 r2 r3 b) []) _
      refine XS.iload X0.here hx rfl (hb hby at_215) rfl ?_
      show GO p e below T0 (mkF m 217 (la5 p0 p1 p2 p3 p4 p5 (1 : Int32) (1 : Int32) r0 r1 r2 r3 b) [(.int 1)]) _
      refine XS.ifYes X0.here hx rfl (pc0 := 217) (pc' := 225) rfl (hb hby at_217) rfl ((if0 _ _).trans (tlt ((by decide) : (0 : Int32) < (1 : Int32))).2.2.1) (by decide) (by decide) ?_
      show GO p e below T0 (mkF m 225 (la5 p0 p1 p2 p3 p4 p5 (1 : Int32) (1 : Int32) r0 r1 r2 r3 b) []) _
      refine XS.iload X0.here hx rfl (hb hby at_225) rfl ?_
      show GO p e below T0 (mkF m 227 (la5 p0 p1 p2 p3 p4 p5 (1 : Int32) (1 : Int32) r0 r1 r2 r3 b) [(.int 1)]) _
      refine XS.iconst X0.here hx rfl (hb hby at_227) ?_
      show GO p e below T0 (mkF m 228 (la5 p0 p1 p2 p3 p4 p5 (1 : Int32) (1 : Int32) r0 r1 r2 r3 b) [(.int 1), (.int 1)]) _
      refine XS.icmpYes X0.here hx rfl (pc0 := 228) (pc' := 242) rfl (hb hby at_228) rfl (flt ((by decide) : ¬ ((1 : Int32) < (1 : Int32)))).2.2.2 (by decide) (by decide) ?_
      show GO p e below T0 (mkF m 242 (la5 p0 p1 p2 p3 p4 p5 (1 : Int32) (1 : Int32) r0 r1 r2 r3 b) []) _
      refine XS.iload X0.here hx rfl (hb hby at_242) rfl ?_
      show GO p e below T0 (mkF m 244 (la5 p0 p1 p2 p3 p4 p5 (1 : Int32) (1 : Int32) r0 r1 r2 r3 b) [(.int 1)]) _
      refine XS.iconst X0.here hx rfl (hb hby at_244) ?_
      show GO p e below T0 (mkF m 245 (la5 p0 p1 p2 p3 p4 p5 (1 : Int32) (1 : Int32) r0 r1 r2 r3 b) [(.int 2), (.int 1)]) _
      refine XS.icmpYes X0.here hx rfl (pc0 := 245) (pc' := 259) rfl (hb hby at_245) rfl (flt ((by decide) : ¬ ((2 : Int32) < (1 : Int32)))).2.2.2 (by decide) (by decide) ?_
      show GO p e below T0 (mkF m 259 (la5 p0 p1 p2 p3 p4 p5 (1 : Int32) (1 : Int32) r0 r1 r2 r3 b) []) _
      refine XS.iload X0.here hx rfl (hb hby at_259) rfl ?_
      show GO p e below T0 (mkF m 261 (la5 p0 p1 p2 p3 p4 p5 (1 : Int32) (1 : Int32) r0 r1 r2 r3 b) [(.int 1)]) _
      refine XS.iconst X0.here hx rfl (hb hby at_261) ?_
      show GO p e below T0 (mkF m 262 (la5 p0 p1 p2 p3 p4 p5 (1 : Int32) (1 : Int32) r0 r1 r2 r3 b) [(.int 3), (.int 1)]) _
      refine XS.icmpYes X0.here hx rfl (pc0 := 262) (pc' := 280) rfl (hb hby at_262) rfl (flt ((by decide) : ¬ ((3 : Int32) < (1 : Int32)))).2.2.2 (by decide) (by decide) ?_
      show GO p e below T0 (mkF m 280 (la5 p0 p1 p2 p3 p4 p5 (1 : Int32) (1 : Int32) r0 r1 r2 r3 b) []) _
      refine XS.iconst X0.here hx rfl (hb hby at_280) ?_
      exact kt
    exact ⟨(0 : Int32), (by simp [own_any]), fun t kt => pre658 t kt⟩
  -- pc 285: Block.holdsRear by rm_hold1_0
  obtain ⟨cq659, kq659, q659a, q659b, q659c⟩ := isOf hZ e0 E1
  obtain ⟨_, _, ⟨T659, L659, k659, n659⟩, -, X659, ⟨Lc659, hQ659, l659, y659, z659⟩, st659⟩ := X0.virtualBack hx (y := (⟨kS0, "holdsRear", "()Z"⟩ : MethodName)) (z := (⟨kS0, "holdsRear", "()Z"⟩ : MethodName)) hown (mvT hZ (wd hw 25 rfl)) (mvT hZ (wd hw 26 rfl)) (notFace_of_selects (args := #[]) (mvT hZ (wd hw 28 rfl))) (mvT hZ (wd hw 28 rfl)) (mvT hZ (wd hw 27 rfl)) (by decide) (backOf (W := 0) (rm_hold1_0 l Z a0 hw [] b t3 k3 ([(.int (nar .boolean r0)), (.int 0), (.int 0), (.int 0), (.int 0), (.int 0), (.int 0), (.int 0)]) h0 n0 (by omega) Fh Fs F3 V3) hZ (wd hw 29 rfl) (wd hw 7 rfl) (by decide) (by decide)) q659a q659c (g := (mkF m 285 (la6 p0 p1 p2 p3 p4 p5 (1 : Int32) (1 : Int32) r0 r1 r2 r3 b vv) [(.ref b)])) rfl (by rw [hml]; rfl) (Steps.refl _) (argsL := []) (rest := []) (lenOf pd_0 rfl) rfl (by show 2 * 0 + _ ≤ _; exact Nat.le_of_eq rfl) (hb hby at_285) (fun _ _ => ⟨rfl, e0, (by decide : 5 + 0 ≤ _), (by decide : 39 + 0 ≤ _)⟩)
  dsimp only [Pt.U, Pt.locs, Pt.cells, Pt.slots] at X659 l659 y659 z659 st659 hQ659
  subst l659 y659 z659
  obtain ⟨rfl, N659q, e659⟩ := hQ659
  have N659 := Fr.app N0 N659q
  have pre660 : ∀ t, Steps p.tables e below (T659.setTop (mkF m 298 (la6 p0 p1 p2 p3 p4 p5 (1 : Int32) (1 : Int32) r0 r1 r2 r3 b vv) [(.int 1)])) t → Steps p.tables e below (T0.setTop (mkF m 210 (la5 p0 p1 p2 p3 p4 p5 (1 : Int32) (1 : Int32) r0 r1 r2 r3 b) [])) t := by
    intro t kt
    refine pre657 t ?_
    show GO p e below T0 (mkF m 281 (la5 p0 p1 p2 p3 p4 p5 (1 : Int32) (1 : Int32) r0 r1 r2 r3 b) [(.int vv)]) _
    refine XS.istore X0.here hx rfl (hb hby at_281) rfl (l' := (la6 p0 p1 p2 p3 p4 p5 (1 : Int32) (1 : Int32) r0 r1 r2 r3 b vv)) rfl ?_
    show GO p e below T0 (mkF m 283 (la6 p0 p1 p2 p3 p4 p5 (1 : Int32) (1 : Int32) r0 r1 r2 r3 b vv) []) _
    refine XS.aload X0.here hx rfl (hb hby at_283) rfl rfl ?_
    show GO p e below T0 (mkF m 285 (la6 p0 p1 p2 p3 p4 p5 (1 : Int32) (1 : Int32) r0 r1 r2 r3 b vv) [(.ref b)]) _
    refine st659.trans ?_
    show GO p e below T659 (mkF m 288 (la6 p0 p1 p2 p3 p4 p5 (1 : Int32) (1 : Int32) r0 r1 r2 r3 b vv) [(.int (own_any []))]) _
    refine XS.iload X659.here hx rfl (hb hby at_288) rfl ?_
    show GO p e below T659 (mkF m 290 (la6 p0 p1 p2 p3 p4 p5 (1 : Int32) (1 : Int32) r0 r1 r2 r3 b vv) [(.int vv), (.int (own_any []))]) _
    refine XS.icmpNo X659.here hx rfl (hb hby at_290) rfl (teq ((by simp only [hvv, hb0, hb1, hb2, hb3]) : (own_any []) = vv)).2 ?_
    show GO p e below T659 (mkF m 293 (la6 p0 p1 p2 p3 p4 p5 (1 : Int32) (1 : Int32) r0 r1 r2 r3 b vv) []) _
    refine XS.iconst X659.here hx rfl (hb hby at_293) ?_
    show GO p e below T659 (mkF m 294 (la6 p0 p1 p2 p3 p4 p5 (1 : Int32) (1 : Int32) r0 r1 r2 r3 b vv) [(.int 1)]) _
    refine XS.goto X659.here hx rfl (pc0 := 294) (pc' := 298) rfl (hb hby at_294) (by decide) (by decide) ?_
    exact kt
  exact ⟨vv, T659, h0, _, X659.mono (by decide) (by decide), e659, N659, fun t kt => pre660 t kt⟩
set_option maxRecDepth 65536 in
set_option maxHeartbeats 40000000 in
theorem tail_2_0 {p : Program} {l : Launch} {e : Env} {s : State} {m : MethodId} {args : Array Value} {below : List Frame} {meth : Method} {c : Code} {T0 : State} {locs : List Loc} {Z : State} {a0 : Array Value} (p0 : Int32) (p1 : Int32) (p2 : Int32) (p3 : Int32) (p4 : Int32) (p5 : Int32) (r0 : Int32) (r1 : Int32) (r2 : Int32) (r3 : Int32) (b : Addr) (t3 : Addr) (k3 : ClassId) {h0 : Heap} {n0 : Nat}
    (X0 : Stand p l e room_1 s m args below meth c T0 locs 5 39) (hx : p.tables.exec = Jvm.exec) (hZ : Z.Warmed39 s.vm) (hw : ∀ d ∈ tables_1, d.before a0 Z = true) (hby : c.code = code) (hml : c.maxLocals = 14) (hown : s.vm.findClass "com/example/occupancy/occupancy/loading/BlockHoldsRearPinLaw" = some m.cls) (e0 : T0.heap = h0) (N0 : Fr n0 locs) (Z0 : n0 ≤ h0.size) (E1 : Exa Z h0 b kS0) (Fh : Fld Z h0 b kS0 "head" "I" (.int 0)) (Fs : Fld Z h0 b kS0 "size" "I" (.int 2)) (F3 : Fld Z h0 b kS0 "rears" "[Z" (.ref t3)) (V3 : Arv Z h0 t3 k3 .boolean (8 : Int32) [(.int (nar .boolean r0)), (.int (nar .boolean r1)), (.int 0), (.int 0), (.int 0), (.int 0), (.int 0), (.int 0)] (.int 0)) (hb0 : nar .boolean r0 = r0) (hb1 : nar .boolean r1 = r1) (hb2 : nar .boolean r2 = r2) (hb3 : nar .boolean r3 = r3) :
    ∃ vv : Int32, ∃ (T' : State) (h' : Heap) (locs' : List Loc), Stand p l e room_1 s m args below meth c T' locs' 5 39 ∧ T'.heap = h' ∧ Fr n0 locs' ∧
      ∀ target, Steps p.tables e below (T'.setTop (mkF m 298 (la6 p0 p1 p2 p3 p4 p5 (2 : Int32) (0 : Int32) r0 r1 r2 r3 b vv) [(.int 1)])) target → Steps p.tables e below (T0.setTop (mkF m 210 (la5 p0 p1 p2 p3 p4 p5 (2 : Int32) (0 : Int32) r0 r1 r2 r3 b) [])) target := by
  have pre0 : ∀ t, Steps p.tables e below (T0.setTop (mkF m 210 (la5 p0 p1 p2 p3 p4 p5 (2 : Int32) (0 : Int32) r0 r1 r2 r3 b) [])) t → Steps p.tables e below (T0.setTop (mkF m 210 (la5 p0 p1 p2 p3 p4 p5 (2 : Int32) (0 : Int32) r0 r1 r2 r3 b) [])) t := fun _ k => k
  have lt_E1 := ltA E1.lt
  have lt_Fh := ltA Fh.lt
  have lt_Fs := ltA Fs.lt
  have lt_F3 := ltA F3.lt
  have lt_V3 := ltA V3.lt
  obtain ⟨vv, hvv, pre661⟩ : ∃ vv : Int32, (vv = own_any [r0, r1]) ∧ ∀ t, Steps p.tables e below (T0.setTop (mkF m 281 (la5 p0 p1 p2 p3 p4 p5 (2 : Int32) (0 : Int32) r0 r1 r2 r3 b) [(.int vv)])) t → Steps p.tables e below (T0.setTop (mkF m 210 (la5 p0 p1 p2 p3 p4 p5 (2 : Int32) (0 : Int32) r0 r1 r2 r3 b) [])) t := by
    have pre662 : ∀ t, Steps p.tables e below (T0.setTop (mkF m 222 (la5 p0 p1 p2 p3 p4 p5 (2 : Int32) (0 : Int32) r0 r1 r2 r3 b) [(.int r0)])) t → Steps p.tables e below (T0.setTop (mkF m 210 (la5 p0 p1 p2 p3 p4 p5 (2 : Int32) (0 : Int32) r0 r1 r2 r3 b) [])) t := by
      intro t kt
      refine pre0 t ?_
      show GO p e below T0 (mkF m 210 (la5 p0 p1 p2 p3 p4 p5 (2 : Int32) (0 : Int32) r0 r1 r2 r3 b) []) _
      refine XS.iload X0.here hx rfl (hb hby at_210) rfl ?_
      show GO p e below T0 (mkF m 212 (la5 p0 p1 p2 p3 p4 p5 (2 : Int32) (0 : Int32) r0 r1 r2 r3 b) [(.int 2)]) _
      refine XS.ifNo X0.here hx rfl (hb hby at_212) rfl ((if0 _ _).trans (tlt ((by decide) : (0 : Int32) < (2 : Int32))).2.2.2) ?_
      show GO p e below T0 (mkF m 215 (la5 p0 p1 p2 p3 p4 p5 (2 : Int32) (0 : Int32) r0 r1 r2 r3 b) []) _
      refine XS.iload X0.here hx rfl (hb hby at_215) rfl ?_
      show GO p e below T0 (mkF m 217 (la5 p0 p1 p2 p3 p4 p5 (2 : Int32) (0 : Int32) r0 r1 r2 r3 b) [(.int 0)]) _
      refine XS.ifNo X0.here hx rfl (hb hby at_217) rfl ((if0 _ _).trans (flt ((by decide) : ¬ ((0 : Int32) < (0 : Int32)))).2.2.1) ?_
      show GO p e below T0 (mkF m 220 (la5 p0 p1 p2 p3 p4 p5 (2 : Int32) (0 : Int32) r0 r1 r2 r3 b) []) _
      refine XS.iload X0.here hx rfl (hb hby at_220) rfl ?_
      exact kt
    by_cases hb663 : r0 = (0 : Int32)
    · have pre664 : ∀ t, Steps p.tables e below (T0.setTop (mkF m 239 (la5 p0 p1 p2 p3 p4 p5 (2 : Int32) (0 : Int32) r0 r1 r2 r3 b) [(.int r1)])) t → Steps p.tables e below (T0.setTop (mkF m 210 (la5 p0 p1 p2 p3 p4 p5 (2 : Int32) (0 : Int32) r0 r1 r2 r3 b) [])) t := by
        intro t kt
        refine pre662 t ?_
        show GO p e below T0 (mkF m 222 (la5 p0 p1 p2 p3 p4 p5 (2 : Int32) (0 : Int32) r0 r1 r2 r3 b) [(.int r0)]) _
        refine XS.ifNo X0.here hx rfl (hb hby at_222) rfl ((if0 _ _).trans (teq (hb663 : r0 = (0 : Int32))).2) ?_
        show GO p e below T0 (mkF m 225 (la5 p0 p1 p2 p3 p4 p5 (2 : Int32) (0 : Int32) r0 r1 r2 r3 b) []) _
        refine XS.iload X0.here hx rfl (hb hby at_225) rfl ?_
        show GO p e below T0 (mkF m 227 (la5 p0 p1 p2 p3 p4 p5 (2 : Int32) (0 : Int32) r0 r1 r2 r3 b) [(.int 2)]) _
        refine XS.iconst X0.here hx rfl (hb hby at_227) ?_
        show GO p e below T0 (mkF m 228 (la5 p0 p1 p2 p3 p4 p5 (2 : Int32) (0 : Int32) r0 r1 r2 r3 b) [(.int 1), (.int 2)]) _
        refine XS.icmpNo X0.here hx rfl (hb hby at_228) rfl (tlt ((by decide) : (1 : Int32) < (2 : Int32))).2.2.2 ?_
        show GO p e below T0 (mkF m 231 (la5 p0 p1 p2 p3 p4 p5 (2 : Int32) (0 : Int32) r0 r1 r2 r3 b) []) _
        refine XS.iload X0.here hx rfl (hb hby at_231) rfl ?_
        show GO p e below T0 (mkF m 233 (la5 p0 p1 p2 p3 p4 p5 (2 : Int32) (0 : Int32) r0 r1 r2 r3 b) [(.int 0)]) _
        refine XS.iconst X0.here hx rfl (hb hby at_233) ?_
        show GO p e below T0 (mkF m 234 (la5 p0 p1 p2 p3 p4 p5 (2 : Int32) (0 : Int32) r0 r1 r2 r3 b) [(.int 1), (.int 0)]) _
        refine XS.icmpNo X0.here hx rfl (hb hby at_234) rfl (flt ((by decide) : ¬ ((1 : Int32) < (0 : Int32)))).2.2.1 ?_
        show GO p e below T0 (mkF m 237 (la5 p0 p1 p2 p3 p4 p5 (2 : Int32) (0 : Int32) r0 r1 r2 r3 b) []) _
        refine XS.iload X0.here hx rfl (hb hby at_237) rfl ?_
        exact kt
      by_cases hb665 : r1 = (0 : Int32)
      · have pre666 : ∀ t, Steps p.tables e below (T0.setTop (mkF m 281 (la5 p0 p1 p2 p3 p4 p5 (2 : Int32) (0 : Int32) r0 r1 r2 r3 b) [(.int 0)])) t → Steps p.tables e below (T0.setTop (mkF m 210 (la5 p0 p1 p2 p3 p4 p5 (2 : Int32) (0 : Int32) r0 r1 r2 r3 b) [])) t := by
          intro t kt
          refine pre664 t ?_
          show GO p e below T0 (mkF m 239 (la5 p0 p1 p2 p3 p4 p5 (2 : Int32) (0 : Int32) r0 r1 r2 r3 b) [(.int r1)]) _
          refine XS.ifNo X0.here hx rfl (hb hby at_239) rfl ((if0 _ _).trans (teq (hb665 : r1 = (0 : Int32))).2) ?_
          show GO p e below T0 (mkF m 242 (la5 p0 p1 p2 p3 p4 p5 (2 : Int32) (0 : Int32) r0 r1 r2 r3 b) []) _
          refine XS.iload X0.here hx rfl (hb hby at_242) rfl ?_
          show GO p e below T0 (mkF m 244 (la5 p0 p1 p2 p3 p4 p5 (2 : Int32) (0 : Int32) r0 r1 r2 r3 b) [(.int 2)]) _
          refine XS.iconst X0.here hx rfl (hb hby at_244) ?_
          show GO p e below T0 (mkF m 245 (la5 p0 p1 p2 p3 p4 p5 (2 : Int32) (0 : Int32) r0 r1 r2 r3 b) [(.int 2), (.int 2)]) _
          refine XS.icmpYes X0.here hx rfl (pc0 := 245) (pc' := 259) rfl (hb hby at_245) rfl (flt ((by decide) : ¬ ((2 : Int32) < (2 : Int32)))).2.2.2 (by decide) (by decide) ?_
          show GO p e below T0 (mkF m 259 (la5 p0 p1 p2 p3 p4 p5 (2 : Int32) (0 : Int32) r0 r1 r2 r3 b) []) _
          refine XS.iload X0.here hx rfl (hb hby at_259) rfl ?_
          show GO p e below T0 (mkF m 261 (la5 p0 p1 p2 p3 p4 p5 (2 : Int32) (0 : Int32) r0 r1 r2 r3 b) [(.int 2)]) _
          refine XS.iconst X0.here hx rfl (hb hby at_261) ?_
          show GO p e below T0 (mkF m 262 (la5 p0 p1 p2 p3 p4 p5 (2 : Int32) (0 : Int32) r0 r1 r2 r3 b) [(.int 3), (.int 2)]) _
          refine XS.icmpYes X0.here hx rfl (pc0 := 262) (pc' := 280) rfl (hb hby at_262) rfl (flt ((by decide) : ¬ ((3 : Int32) < (2 : Int32)))).2.2.2 (by decide) (by decide) ?_
          show GO p e below T0 (mkF m 280 (la5 p0 p1 p2 p3 p4 p5 (2 : Int32) (0 : Int32) r0 r1 r2 r3 b) []) _
          refine XS.iconst X0.here hx rfl (hb hby at_280) ?_
          exact kt
        exact ⟨(0 : Int32), (by simp [own_any, hb663, hb665]), fun t kt => pre666 t kt⟩
      · have pre667 : ∀ t, Steps p.tables e below (T0.setTop (mkF m 281 (la5 p0 p1 p2 p3 p4 p5 (2 : Int32) (0 : Int32) r0 r1 r2 r3 b) [(.int 1)])) t → Steps p.tables e below (T0.setTop (mkF m 210 (la5 p0 p1 p2 p3 p4 p5 (2 : Int32) (0 : Int32) r0 r1 r2 r3 b) [])) t := by
          intro t kt
          refine pre664 t ?_
          show GO p e below T0 (mkF m 239 (la5 p0 p1 p2 p3 p4 p5 (2 : Int32) (0 : Int32) r0 r1 r2 r3 b) [(.int r1)]) _
          refine XS.ifYes X0.here hx rfl (pc0 := 239) (pc' := 276) rfl (hb hby at_239) rfl ((if0 _ _).trans (feq (hb665 : ¬ (r1 = (0 : Int32)))).2) (by decide) (by decide) ?_
          show GO p e below T0 (mkF m 276 (la5 p0 p1 p2 p3 p4 p5 (2 : Int32) (0 : Int32) r0 r1 r2 r3 b) []) _
          refine XS.iconst X0.here hx rfl (hb hby at_276) ?_
          show GO p e below T0 (mkF m 277 (la5 p0 p1 p2 p3 p4 p5 (2 : Int32) (0 : Int32) r0 r1 r2 r3 b) [(.int 1)]) _
          refine XS.goto X0.here hx rfl (pc0 := 277) (pc' := 281) rfl (hb hby at_277) (by decide) (by decide) ?_
          exact kt
        exact ⟨(1 : Int32), (by simp [own_any, hb663, hb665]), fun t kt => pre667 t kt⟩
    · have pre668 : ∀ t, Steps p.tables e below (T0.setTop (mkF m 281 (la5 p0 p1 p2 p3 p4 p5 (2 : Int32) (0 : Int32) r0 r1 r2 r3 b) [(.int 1)])) t → Steps p.tables e below (T0.setTop (mkF m 210 (la5 p0 p1 p2 p3 p4 p5 (2 : Int32) (0 : Int32) r0 r1 r2 r3 b) [])) t := by
        intro t kt
        refine pre662 t ?_
        show GO p e below T0 (mkF m 222 (la5 p0 p1 p2 p3 p4 p5 (2 : Int32) (0 : Int32) r0 r1 r2 r3 b) [(.int r0)]) _
        refine XS.ifYes X0.here hx rfl (pc0 := 222) (pc' := 276) rfl (hb hby at_222) rfl ((if0 _ _).trans (feq (hb663 : ¬ (r0 = (0 : Int32)))).2) (by decide) (by decide) ?_
        show GO p e below T0 (mkF m 276 (la5 p0 p1 p2 p3 p4 p5 (2 : Int32) (0 : Int32) r0 r1 r2 r3 b) []) _
        refine XS.iconst X0.here hx rfl (hb hby at_276) ?_
        show GO p e below T0 (mkF m 277 (la5 p0 p1 p2 p3 p4 p5 (2 : Int32) (0 : Int32) r0 r1 r2 r3 b) [(.int 1)]) _
        refine XS.goto X0.here hx rfl (pc0 := 277) (pc' := 281) rfl (hb hby at_277) (by decide) (by decide) ?_
        exact kt
      exact ⟨(1 : Int32), (by simp [own_any, hb663]), fun t kt => pre668 t kt⟩
  -- pc 285: Block.holdsRear by rm_hold0_2
  obtain ⟨cq669, kq669, q669a, q669b, q669c⟩ := isOf hZ e0 E1
  obtain ⟨_, _, ⟨T669, L669, k669, n669⟩, -, X669, ⟨Lc669, hQ669, l669, y669, z669⟩, st669⟩ := X0.virtualBack hx (y := (⟨kS0, "holdsRear", "()Z"⟩ : MethodName)) (z := (⟨kS0, "holdsRear", "()Z"⟩ : MethodName)) hown (mvT hZ (wd hw 25 rfl)) (mvT hZ (wd hw 26 rfl)) (notFace_of_selects (args := #[]) (mvT hZ (wd hw 28 rfl))) (mvT hZ (wd hw 28 rfl)) (mvT hZ (wd hw 27 rfl)) (by decide) (backOf (W := 0) (rm_hold0_2 l Z a0 hw [] b t3 k3 ([(.int (nar .boolean r0)), (.int (nar .boolean r1)), (.int 0), (.int 0), (.int 0), (.int 0), (.int 0), (.int 0)]) (nar .boolean r0) (nar .boolean r1) h0 n0 (by omega) Fh Fs F3 V3 rfl rfl) hZ (wd hw 29 rfl) (wd hw 7 rfl) (by decide) (by decide)) q669a q669c (g := (mkF m 285 (la6 p0 p1 p2 p3 p4 p5 (2 : Int32) (0 : Int32) r0 r1 r2 r3 b vv) [(.ref b)])) rfl (by rw [hml]; rfl) (Steps.refl _) (argsL := []) (rest := []) (lenOf pd_0 rfl) rfl (by show 2 * 0 + _ ≤ _; exact Nat.le_of_eq rfl) (hb hby at_285) (fun _ _ => ⟨rfl, e0, (by decide : 5 + 0 ≤ _), (by decide : 39 + 0 ≤ _)⟩)
  dsimp only [Pt.U, Pt.locs, Pt.cells, Pt.slots] at X669 l669 y669 z669 st669 hQ669
  subst l669 y669 z669
  obtain ⟨rfl, N669q, e669⟩ := hQ669
  have N669 := Fr.app N0 N669q
  have pre670 : ∀ t, Steps p.tables e below (T669.setTop (mkF m 298 (la6 p0 p1 p2 p3 p4 p5 (2 : Int32) (0 : Int32) r0 r1 r2 r3 b vv) [(.int 1)])) t → Steps p.tables e below (T0.setTop (mkF m 210 (la5 p0 p1 p2 p3 p4 p5 (2 : Int32) (0 : Int32) r0 r1 r2 r3 b) [])) t := by
    intro t kt
    refine pre661 t ?_
    show GO p e below T0 (mkF m 281 (la5 p0 p1 p2 p3 p4 p5 (2 : Int32) (0 : Int32) r0 r1 r2 r3 b) [(.int vv)]) _
    refine XS.istore X0.here hx rfl (hb hby at_281) rfl (l' := (la6 p0 p1 p2 p3 p4 p5 (2 : Int32) (0 : Int32) r0 r1 r2 r3 b vv)) rfl ?_
    show GO p e below T0 (mkF m 283 (la6 p0 p1 p2 p3 p4 p5 (2 : Int32) (0 : Int32) r0 r1 r2 r3 b vv) []) _
    refine XS.aload X0.here hx rfl (hb hby at_283) rfl rfl ?_
    show GO p e below T0 (mkF m 285 (la6 p0 p1 p2 p3 p4 p5 (2 : Int32) (0 : Int32) r0 r1 r2 r3 b vv) [(.ref b)]) _
    refine st669.trans ?_
    show GO p e below T669 (mkF m 288 (la6 p0 p1 p2 p3 p4 p5 (2 : Int32) (0 : Int32) r0 r1 r2 r3 b vv) [(.int (own_any [(nar .boolean r0), (nar .boolean r1)]))]) _
    refine XS.iload X669.here hx rfl (hb hby at_288) rfl ?_
    show GO p e below T669 (mkF m 290 (la6 p0 p1 p2 p3 p4 p5 (2 : Int32) (0 : Int32) r0 r1 r2 r3 b vv) [(.int vv), (.int (own_any [(nar .boolean r0), (nar .boolean r1)]))]) _
    refine XS.icmpNo X669.here hx rfl (hb hby at_290) rfl (teq ((by simp only [hvv, hb0, hb1, hb2, hb3]) : (own_any [(nar .boolean r0), (nar .boolean r1)]) = vv)).2 ?_
    show GO p e below T669 (mkF m 293 (la6 p0 p1 p2 p3 p4 p5 (2 : Int32) (0 : Int32) r0 r1 r2 r3 b vv) []) _
    refine XS.iconst X669.here hx rfl (hb hby at_293) ?_
    show GO p e below T669 (mkF m 294 (la6 p0 p1 p2 p3 p4 p5 (2 : Int32) (0 : Int32) r0 r1 r2 r3 b vv) [(.int 1)]) _
    refine XS.goto X669.here hx rfl (pc0 := 294) (pc' := 298) rfl (hb hby at_294) (by decide) (by decide) ?_
    exact kt
  exact ⟨vv, T669, h0, _, X669.mono (by decide) (by decide), e669, N669, fun t kt => pre670 t kt⟩
set_option maxRecDepth 65536 in
set_option maxHeartbeats 40000000 in
theorem tail_2_1 {p : Program} {l : Launch} {e : Env} {s : State} {m : MethodId} {args : Array Value} {below : List Frame} {meth : Method} {c : Code} {T0 : State} {locs : List Loc} {Z : State} {a0 : Array Value} (p0 : Int32) (p1 : Int32) (p2 : Int32) (p3 : Int32) (p4 : Int32) (p5 : Int32) (r0 : Int32) (r1 : Int32) (r2 : Int32) (r3 : Int32) (b : Addr) (t3 : Addr) (k3 : ClassId) {h0 : Heap} {n0 : Nat}
    (X0 : Stand p l e room_1 s m args below meth c T0 locs 5 39) (hx : p.tables.exec = Jvm.exec) (hZ : Z.Warmed39 s.vm) (hw : ∀ d ∈ tables_1, d.before a0 Z = true) (hby : c.code = code) (hml : c.maxLocals = 14) (hown : s.vm.findClass "com/example/occupancy/occupancy/loading/BlockHoldsRearPinLaw" = some m.cls) (e0 : T0.heap = h0) (N0 : Fr n0 locs) (Z0 : n0 ≤ h0.size) (E1 : Exa Z h0 b kS0) (Fh : Fld Z h0 b kS0 "head" "I" (.int 1)) (Fs : Fld Z h0 b kS0 "size" "I" (.int 1)) (F3 : Fld Z h0 b kS0 "rears" "[Z" (.ref t3)) (V3 : Arv Z h0 t3 k3 .boolean (8 : Int32) [(.int (nar .boolean r0)), (.int (nar .boolean r1)), (.int 0), (.int 0), (.int 0), (.int 0), (.int 0), (.int 0)] (.int 0)) (hb0 : nar .boolean r0 = r0) (hb1 : nar .boolean r1 = r1) (hb2 : nar .boolean r2 = r2) (hb3 : nar .boolean r3 = r3) :
    ∃ vv : Int32, ∃ (T' : State) (h' : Heap) (locs' : List Loc), Stand p l e room_1 s m args below meth c T' locs' 5 39 ∧ T'.heap = h' ∧ Fr n0 locs' ∧
      ∀ target, Steps p.tables e below (T'.setTop (mkF m 298 (la6 p0 p1 p2 p3 p4 p5 (2 : Int32) (1 : Int32) r0 r1 r2 r3 b vv) [(.int 1)])) target → Steps p.tables e below (T0.setTop (mkF m 210 (la5 p0 p1 p2 p3 p4 p5 (2 : Int32) (1 : Int32) r0 r1 r2 r3 b) [])) target := by
  have pre0 : ∀ t, Steps p.tables e below (T0.setTop (mkF m 210 (la5 p0 p1 p2 p3 p4 p5 (2 : Int32) (1 : Int32) r0 r1 r2 r3 b) [])) t → Steps p.tables e below (T0.setTop (mkF m 210 (la5 p0 p1 p2 p3 p4 p5 (2 : Int32) (1 : Int32) r0 r1 r2 r3 b) [])) t := fun _ k => k
  have lt_E1 := ltA E1.lt
  have lt_Fh := ltA Fh.lt
  have lt_Fs := ltA Fs.lt
  have lt_F3 := ltA F3.lt
  have lt_V3 := ltA V3.lt
  obtain ⟨vv, hvv, pre671⟩ : ∃ vv : Int32, (vv = own_any [r1]) ∧ ∀ t, Steps p.tables e below (T0.setTop (mkF m 281 (la5 p0 p1 p2 p3 p4 p5 (2 : Int32) (1 : Int32) r0 r1 r2 r3 b) [(.int vv)])) t → Steps p.tables e below (T0.setTop (mkF m 210 (la5 p0 p1 p2 p3 p4 p5 (2 : Int32) (1 : Int32) r0 r1 r2 r3 b) [])) t := by
    have pre672 : ∀ t, Steps p.tables e below (T0.setTop (mkF m 239 (la5 p0 p1 p2 p3 p4 p5 (2 : Int32) (1 : Int32) r0 r1 r2 r3 b) [(.int r1)])) t → Steps p.tables e below (T0.setTop (mkF m 210 (la5 p0 p1 p2 p3 p4 p5 (2 : Int32) (1 : Int32) r0 r1 r2 r3 b) [])) t := by
      intro t kt
      refine pre0 t ?_
      show GO p e below T0 (mkF m 210 (la5 p0 p1 p2 p3 p4 p5 (2 : Int32) (1 : Int32) r0 r1 r2 r3 b) []) _
      refine XS.iload X0.here hx rfl (hb hby at_210) rfl ?_
      show GO p e below T0 (mkF m 212 (la5 p0 p1 p2 p3 p4 p5 (2 : Int32) (1 : Int32) r0 r1 r2 r3 b) [(.int 2)]) _
      refine XS.ifNo X0.here hx rfl (hb hby at_212) rfl ((if0 _ _).trans (tlt ((by decide) : (0 : Int32) < (2 : Int32))).2.2.2) ?_
      show GO p e below T0 (mkF m 215 (la5 p0 p1 p2 p3 p4 p5 (2 : Int32) (1 : Int32) r0 r1 r2 r3 b) []) _
      refine XS.iload X0.here hx rfl (hb hby at_215) rfl ?_
      show GO p e below T0 (mkF m 217 (la5 p0 p1 p2 p3 p4 p5 (2 : Int32) (1 : Int32) r0 r1 r2 r3 b) [(.int 1)]) _
      refine XS.ifYes X0.here hx rfl (pc0 := 217) (pc' := 225) rfl (hb hby at_217) rfl ((if0 _ _).trans (tlt ((by decide) : (0 : Int32) < (1 : Int32))).2.2.1) (by decide) (by decide) ?_
      show GO p e below T0 (mkF m 225 (la5 p0 p1 p2 p3 p4 p5 (2 : Int32) (1 : Int32) r0 r1 r2 r3 b) []) _
      refine XS.iload X0.here hx rfl (hb hby at_225) rfl ?_
      show GO p e below T0 (mkF m 227 (la5 p0 p1 p2 p3 p4 p5 (2 : Int32) (1 : Int32) r0 r1 r2 r3 b) [(.int 2)]) _
      refine XS.iconst X0.here hx rfl (hb hby at_227) ?_
      show GO p e below T0 (mkF m 228 (la5 p0 p1 p2 p3 p4 p5 (2 : Int32) (1 : Int32) r0 r1 r2 r3 b) [(.int 1), (.int 2)]) _
      refine XS.icmpNo X0.here hx rfl (hb hby at_228) rfl (tlt ((by decide) : (1 : Int32) < (2 : Int32))).2.2.2 ?_
      show GO p e below T0 (mkF m 231 (la5 p0 p1 p2 p3 p4 p5 (2 : Int32) (1 : Int32) r0 r1 r2 r3 b) []) _
      refine XS.iload X0.here hx rfl (hb hby at_231) rfl ?_
      show GO p e below T0 (mkF m 233 (la5 p0 p1 p2 p3 p4 p5 (2 : Int32) (1 : Int32) r0 r1 r2 r3 b) [(.int 1)]) _
      refine XS.iconst X0.here hx rfl (hb hby at_233) ?_
      show GO p e below T0 (mkF m 234 (la5 p0 p1 p2 p3 p4 p5 (2 : Int32) (1 : Int32) r0 r1 r2 r3 b) [(.int 1), (.int 1)]) _
      refine XS.icmpNo X0.here hx rfl (hb hby at_234) rfl (flt ((by decide) : ¬ ((1 : Int32) < (1 : Int32)))).2.2.1 ?_
      show GO p e below T0 (mkF m 237 (la5 p0 p1 p2 p3 p4 p5 (2 : Int32) (1 : Int32) r0 r1 r2 r3 b) []) _
      refine XS.iload X0.here hx rfl (hb hby at_237) rfl ?_
      exact kt
    by_cases hb673 : r1 = (0 : Int32)
    · have pre674 : ∀ t, Steps p.tables e below (T0.setTop (mkF m 281 (la5 p0 p1 p2 p3 p4 p5 (2 : Int32) (1 : Int32) r0 r1 r2 r3 b) [(.int 0)])) t → Steps p.tables e below (T0.setTop (mkF m 210 (la5 p0 p1 p2 p3 p4 p5 (2 : Int32) (1 : Int32) r0 r1 r2 r3 b) [])) t := by
        intro t kt
        refine pre672 t ?_
        show GO p e below T0 (mkF m 239 (la5 p0 p1 p2 p3 p4 p5 (2 : Int32) (1 : Int32) r0 r1 r2 r3 b) [(.int r1)]) _
        refine XS.ifNo X0.here hx rfl (hb hby at_239) rfl ((if0 _ _).trans (teq (hb673 : r1 = (0 : Int32))).2) ?_
        show GO p e below T0 (mkF m 242 (la5 p0 p1 p2 p3 p4 p5 (2 : Int32) (1 : Int32) r0 r1 r2 r3 b) []) _
        refine XS.iload X0.here hx rfl (hb hby at_242) rfl ?_
        show GO p e below T0 (mkF m 244 (la5 p0 p1 p2 p3 p4 p5 (2 : Int32) (1 : Int32) r0 r1 r2 r3 b) [(.int 2)]) _
        refine XS.iconst X0.here hx rfl (hb hby at_244) ?_
        show GO p e below T0 (mkF m 245 (la5 p0 p1 p2 p3 p4 p5 (2 : Int32) (1 : Int32) r0 r1 r2 r3 b) [(.int 2), (.int 2)]) _
        refine XS.icmpYes X0.here hx rfl (pc0 := 245) (pc' := 259) rfl (hb hby at_245) rfl (flt ((by decide) : ¬ ((2 : Int32) < (2 : Int32)))).2.2.2 (by decide) (by decide) ?_
        show GO p e below T0 (mkF m 259 (la5 p0 p1 p2 p3 p4 p5 (2 : Int32) (1 : Int32) r0 r1 r2 r3 b) []) _
        refine XS.iload X0.here hx rfl (hb hby at_259) rfl ?_
        show GO p e below T0 (mkF m 261 (la5 p0 p1 p2 p3 p4 p5 (2 : Int32) (1 : Int32) r0 r1 r2 r3 b) [(.int 2)]) _
        refine XS.iconst X0.here hx rfl (hb hby at_261) ?_
        show GO p e below T0 (mkF m 262 (la5 p0 p1 p2 p3 p4 p5 (2 : Int32) (1 : Int32) r0 r1 r2 r3 b) [(.int 3), (.int 2)]) _
        refine XS.icmpYes X0.here hx rfl (pc0 := 262) (pc' := 280) rfl (hb hby at_262) rfl (flt ((by decide) : ¬ ((3 : Int32) < (2 : Int32)))).2.2.2 (by decide) (by decide) ?_
        show GO p e below T0 (mkF m 280 (la5 p0 p1 p2 p3 p4 p5 (2 : Int32) (1 : Int32) r0 r1 r2 r3 b) []) _
        refine XS.iconst X0.here hx rfl (hb hby at_280) ?_
        exact kt
      exact ⟨(0 : Int32), (by simp [own_any, hb673]), fun t kt => pre674 t kt⟩
    · have pre675 : ∀ t, Steps p.tables e below (T0.setTop (mkF m 281 (la5 p0 p1 p2 p3 p4 p5 (2 : Int32) (1 : Int32) r0 r1 r2 r3 b) [(.int 1)])) t → Steps p.tables e below (T0.setTop (mkF m 210 (la5 p0 p1 p2 p3 p4 p5 (2 : Int32) (1 : Int32) r0 r1 r2 r3 b) [])) t := by
        intro t kt
        refine pre672 t ?_
        show GO p e below T0 (mkF m 239 (la5 p0 p1 p2 p3 p4 p5 (2 : Int32) (1 : Int32) r0 r1 r2 r3 b) [(.int r1)]) _
        refine XS.ifYes X0.here hx rfl (pc0 := 239) (pc' := 276) rfl (hb hby at_239) rfl ((if0 _ _).trans (feq (hb673 : ¬ (r1 = (0 : Int32)))).2) (by decide) (by decide) ?_
        show GO p e below T0 (mkF m 276 (la5 p0 p1 p2 p3 p4 p5 (2 : Int32) (1 : Int32) r0 r1 r2 r3 b) []) _
        refine XS.iconst X0.here hx rfl (hb hby at_276) ?_
        show GO p e below T0 (mkF m 277 (la5 p0 p1 p2 p3 p4 p5 (2 : Int32) (1 : Int32) r0 r1 r2 r3 b) [(.int 1)]) _
        refine XS.goto X0.here hx rfl (pc0 := 277) (pc' := 281) rfl (hb hby at_277) (by decide) (by decide) ?_
        exact kt
      exact ⟨(1 : Int32), (by simp [own_any, hb673]), fun t kt => pre675 t kt⟩
  -- pc 285: Block.holdsRear by rm_hold1_1
  obtain ⟨cq676, kq676, q676a, q676b, q676c⟩ := isOf hZ e0 E1
  obtain ⟨_, _, ⟨T676, L676, k676, n676⟩, -, X676, ⟨Lc676, hQ676, l676, y676, z676⟩, st676⟩ := X0.virtualBack hx (y := (⟨kS0, "holdsRear", "()Z"⟩ : MethodName)) (z := (⟨kS0, "holdsRear", "()Z"⟩ : MethodName)) hown (mvT hZ (wd hw 25 rfl)) (mvT hZ (wd hw 26 rfl)) (notFace_of_selects (args := #[]) (mvT hZ (wd hw 28 rfl))) (mvT hZ (wd hw 28 rfl)) (mvT hZ (wd hw 27 rfl)) (by decide) (backOf (W := 0) (rm_hold1_1 l Z a0 hw [] b t3 k3 ([(.int (nar .boolean r0)), (.int (nar .boolean r1)), (.int 0), (.int 0), (.int 0), (.int 0), (.int 0), (.int 0)]) (nar .boolean r1) h0 n0 (by omega) Fh Fs F3 V3 rfl) hZ (wd hw 29 rfl) (wd hw 7 rfl) (by decide) (by decide)) q676a q676c (g := (mkF m 285 (la6 p0 p1 p2 p3 p4 p5 (2 : Int32) (1 : Int32) r0 r1 r2 r3 b vv) [(.ref b)])) rfl (by rw [hml]; rfl) (Steps.refl _) (argsL := []) (rest := []) (lenOf pd_0 rfl) rfl (by show 2 * 0 + _ ≤ _; exact Nat.le_of_eq rfl) (hb hby at_285) (fun _ _ => ⟨rfl, e0, (by decide : 5 + 0 ≤ _), (by decide : 39 + 0 ≤ _)⟩)
  dsimp only [Pt.U, Pt.locs, Pt.cells, Pt.slots] at X676 l676 y676 z676 st676 hQ676
  subst l676 y676 z676
  obtain ⟨rfl, N676q, e676⟩ := hQ676
  have N676 := Fr.app N0 N676q
  have pre677 : ∀ t, Steps p.tables e below (T676.setTop (mkF m 298 (la6 p0 p1 p2 p3 p4 p5 (2 : Int32) (1 : Int32) r0 r1 r2 r3 b vv) [(.int 1)])) t → Steps p.tables e below (T0.setTop (mkF m 210 (la5 p0 p1 p2 p3 p4 p5 (2 : Int32) (1 : Int32) r0 r1 r2 r3 b) [])) t := by
    intro t kt
    refine pre671 t ?_
    show GO p e below T0 (mkF m 281 (la5 p0 p1 p2 p3 p4 p5 (2 : Int32) (1 : Int32) r0 r1 r2 r3 b) [(.int vv)]) _
    refine XS.istore X0.here hx rfl (hb hby at_281) rfl (l' := (la6 p0 p1 p2 p3 p4 p5 (2 : Int32) (1 : Int32) r0 r1 r2 r3 b vv)) rfl ?_
    show GO p e below T0 (mkF m 283 (la6 p0 p1 p2 p3 p4 p5 (2 : Int32) (1 : Int32) r0 r1 r2 r3 b vv) []) _
    refine XS.aload X0.here hx rfl (hb hby at_283) rfl rfl ?_
    show GO p e below T0 (mkF m 285 (la6 p0 p1 p2 p3 p4 p5 (2 : Int32) (1 : Int32) r0 r1 r2 r3 b vv) [(.ref b)]) _
    refine st676.trans ?_
    show GO p e below T676 (mkF m 288 (la6 p0 p1 p2 p3 p4 p5 (2 : Int32) (1 : Int32) r0 r1 r2 r3 b vv) [(.int (own_any [(nar .boolean r1)]))]) _
    refine XS.iload X676.here hx rfl (hb hby at_288) rfl ?_
    show GO p e below T676 (mkF m 290 (la6 p0 p1 p2 p3 p4 p5 (2 : Int32) (1 : Int32) r0 r1 r2 r3 b vv) [(.int vv), (.int (own_any [(nar .boolean r1)]))]) _
    refine XS.icmpNo X676.here hx rfl (hb hby at_290) rfl (teq ((by simp only [hvv, hb0, hb1, hb2, hb3]) : (own_any [(nar .boolean r1)]) = vv)).2 ?_
    show GO p e below T676 (mkF m 293 (la6 p0 p1 p2 p3 p4 p5 (2 : Int32) (1 : Int32) r0 r1 r2 r3 b vv) []) _
    refine XS.iconst X676.here hx rfl (hb hby at_293) ?_
    show GO p e below T676 (mkF m 294 (la6 p0 p1 p2 p3 p4 p5 (2 : Int32) (1 : Int32) r0 r1 r2 r3 b vv) [(.int 1)]) _
    refine XS.goto X676.here hx rfl (pc0 := 294) (pc' := 298) rfl (hb hby at_294) (by decide) (by decide) ?_
    exact kt
  exact ⟨vv, T676, h0, _, X676.mono (by decide) (by decide), e676, N676, fun t kt => pre677 t kt⟩
set_option maxRecDepth 65536 in
set_option maxHeartbeats 40000000 in
theorem tail_2_2 {p : Program} {l : Launch} {e : Env} {s : State} {m : MethodId} {args : Array Value} {below : List Frame} {meth : Method} {c : Code} {T0 : State} {locs : List Loc} {Z : State} {a0 : Array Value} (p0 : Int32) (p1 : Int32) (p2 : Int32) (p3 : Int32) (p4 : Int32) (p5 : Int32) (r0 : Int32) (r1 : Int32) (r2 : Int32) (r3 : Int32) (b : Addr) (t3 : Addr) (k3 : ClassId) {h0 : Heap} {n0 : Nat}
    (X0 : Stand p l e room_1 s m args below meth c T0 locs 5 39) (hx : p.tables.exec = Jvm.exec) (hZ : Z.Warmed39 s.vm) (hw : ∀ d ∈ tables_1, d.before a0 Z = true) (hby : c.code = code) (hml : c.maxLocals = 14) (hown : s.vm.findClass "com/example/occupancy/occupancy/loading/BlockHoldsRearPinLaw" = some m.cls) (e0 : T0.heap = h0) (N0 : Fr n0 locs) (Z0 : n0 ≤ h0.size) (E1 : Exa Z h0 b kS0) (Fh : Fld Z h0 b kS0 "head" "I" (.int 2)) (Fs : Fld Z h0 b kS0 "size" "I" (.int 0)) (F3 : Fld Z h0 b kS0 "rears" "[Z" (.ref t3)) (V3 : Arv Z h0 t3 k3 .boolean (8 : Int32) [(.int (nar .boolean r0)), (.int (nar .boolean r1)), (.int 0), (.int 0), (.int 0), (.int 0), (.int 0), (.int 0)] (.int 0)) (hb0 : nar .boolean r0 = r0) (hb1 : nar .boolean r1 = r1) (hb2 : nar .boolean r2 = r2) (hb3 : nar .boolean r3 = r3) :
    ∃ vv : Int32, ∃ (T' : State) (h' : Heap) (locs' : List Loc), Stand p l e room_1 s m args below meth c T' locs' 5 39 ∧ T'.heap = h' ∧ Fr n0 locs' ∧
      ∀ target, Steps p.tables e below (T'.setTop (mkF m 298 (la6 p0 p1 p2 p3 p4 p5 (2 : Int32) (2 : Int32) r0 r1 r2 r3 b vv) [(.int 1)])) target → Steps p.tables e below (T0.setTop (mkF m 210 (la5 p0 p1 p2 p3 p4 p5 (2 : Int32) (2 : Int32) r0 r1 r2 r3 b) [])) target := by
  have pre0 : ∀ t, Steps p.tables e below (T0.setTop (mkF m 210 (la5 p0 p1 p2 p3 p4 p5 (2 : Int32) (2 : Int32) r0 r1 r2 r3 b) [])) t → Steps p.tables e below (T0.setTop (mkF m 210 (la5 p0 p1 p2 p3 p4 p5 (2 : Int32) (2 : Int32) r0 r1 r2 r3 b) [])) t := fun _ k => k
  have lt_E1 := ltA E1.lt
  have lt_Fh := ltA Fh.lt
  have lt_Fs := ltA Fs.lt
  have lt_F3 := ltA F3.lt
  have lt_V3 := ltA V3.lt
  obtain ⟨vv, hvv, pre678⟩ : ∃ vv : Int32, (vv = own_any []) ∧ ∀ t, Steps p.tables e below (T0.setTop (mkF m 281 (la5 p0 p1 p2 p3 p4 p5 (2 : Int32) (2 : Int32) r0 r1 r2 r3 b) [(.int vv)])) t → Steps p.tables e below (T0.setTop (mkF m 210 (la5 p0 p1 p2 p3 p4 p5 (2 : Int32) (2 : Int32) r0 r1 r2 r3 b) [])) t := by
    have pre679 : ∀ t, Steps p.tables e below (T0.setTop (mkF m 281 (la5 p0 p1 p2 p3 p4 p5 (2 : Int32) (2 : Int32) r0 r1 r2 r3 b) [(.int 0)])) t → Steps p.tables e below (T0.setTop (mkF m 210 (la5 p0 p1 p2 p3 p4 p5 (2 : Int32) (2 : Int32) r0 r1 r2 r3 b) [])) t := by
      intro t kt
      refine pre0 t ?_
      show GO p e below T0 (mkF m 210 (la5 p0 p1 p2 p3 p4 p5 (2 : Int32) (2 : Int32) r0 r1 r2 r3 b) []) _
      refine XS.iload X0.here hx rfl (hb hby at_210) rfl ?_
      show GO p e below T0 (mkF m 212 (la5 p0 p1 p2 p3 p4 p5 (2 : Int32) (2 : Int32) r0 r1 r2 r3 b) [(.int 2)]) _
      refine XS.ifNo X0.here hx rfl (hb hby at_212) rfl ((if0 _ _).trans (tlt ((by decide) : (0 : Int32) < (2 : Int32))).2.2.2) ?_
      show GO p e below T0 (mkF m 215 (la5 p0 p1 p2 p3 p4 p5 (2 : Int32) (2 : Int32) r0 r1 r2 r3 b) []) _
      refine XS.iload X0.here hx rfl (hb hby at_215) rfl ?_
      show GO p e below T0 (mkF m 217 (la5 p0 p1 p2 p3 p4 p5 (2 : Int32) (2 : Int32) r0 r1 r2 r3 b) [(.int 2)]) _
      refine XS.ifYes X0.here hx rfl (pc0 := 217) (pc' := 225) rfl (hb hby at_217) rfl ((if0 _ _).trans (tlt ((by decide) : (0 : Int32) < (2 : Int32))).2.2.1) (by decide) (by decide) ?_
      show GO p e below T0 (mkF m 225 (la5 p0 p1 p2 p3 p4 p5 (2 : Int32) (2 : Int32) r0 r1 r2 r3 b) []) _
      refine XS.iload X0.here hx rfl (hb hby at_225) rfl ?_
      show GO p e below T0 (mkF m 227 (la5 p0 p1 p2 p3 p4 p5 (2 : Int32) (2 : Int32) r0 r1 r2 r3 b) [(.int 2)]) _
      refine XS.iconst X0.here hx rfl (hb hby at_227) ?_
      show GO p e below T0 (mkF m 228 (la5 p0 p1 p2 p3 p4 p5 (2 : Int32) (2 : Int32) r0 r1 r2 r3 b) [(.int 1), (.int 2)]) _
      refine XS.icmpNo X0.here hx rfl (hb hby at_228) rfl (tlt ((by decide) : (1 : Int32) < (2 : Int32))).2.2.2 ?_
      show GO p e below T0 (mkF m 231 (la5 p0 p1 p2 p3 p4 p5 (2 : Int32) (2 : Int32) r0 r1 r2 r3 b) []) _
      refine XS.iload X0.here hx rfl (hb hby at_231) rfl ?_
      show GO p e below T0 (mkF m 233 (la5 p0 p1 p2 p3 p4 p5 (2 : Int32) (2 : Int32) r0 r1 r2 r3 b) [(.int 2)]) _
      refine XS.iconst X0.here hx rfl (hb hby at_233) ?_
      show GO p e below T0 (mkF m 234 (la5 p0 p1 p2 p3 p4 p5 (2 : Int32) (2 : Int32) r0 r1 r2 r3 b) [(.int 1), (.int 2)]) _
      refine XS.icmpYes X0.here hx rfl (pc0 := 234) (pc' := 242) rfl (hb hby at_234) rfl (tlt ((by decide) : (1 : Int32) < (2 : Int32))).2.2.1 (by decide) (by decide) ?_
      show GO p e below T0 (mkF m 242 (la5 p0 p1 p2 p3 p4 p5 (2 : Int32) (2 : Int32) r0 r1 r2 r3 b) []) _
      refine XS.iload X0.here hx rfl (hb hby at_242) rfl ?_
      show GO p e below T0 (mkF m 244 (la5 p0 p1 p2 p3 p4 p5 (2 : Int32) (2 : Int32) r0 r1 r2 r3 b) [(.int 2)]) _
      refine XS.iconst X0.here hx rfl (hb hby at_244) ?_
      show GO p e below T0 (mkF m 245 (la5 p0 p1 p2 p3 p4 p5 (2 : Int32) (2 : Int32) r0 r1 r2 r3 b) [(.int 2), (.int 2)]) _
      refine XS.icmpYes X0.here hx rfl (pc0 := 245) (pc' := 259) rfl (hb hby at_245) rfl (flt ((by decide) : ¬ ((2 : Int32) < (2 : Int32)))).2.2.2 (by decide) (by decide) ?_
      show GO p e below T0 (mkF m 259 (la5 p0 p1 p2 p3 p4 p5 (2 : Int32) (2 : Int32) r0 r1 r2 r3 b) []) _
      refine XS.iload X0.here hx rfl (hb hby at_259) rfl ?_
      show GO p e below T0 (mkF m 261 (la5 p0 p1 p2 p3 p4 p5 (2 : Int32) (2 : Int32) r0 r1 r2 r3 b) [(.int 2)]) _
      refine XS.iconst X0.here hx rfl (hb hby at_261) ?_
      show GO p e below T0 (mkF m 262 (la5 p0 p1 p2 p3 p4 p5 (2 : Int32) (2 : Int32) r0 r1 r2 r3 b) [(.int 3), (.int 2)]) _
      refine XS.icmpYes X0.here hx rfl (pc0 := 262) (pc' := 280) rfl (hb hby at_262) rfl (flt ((by decide) : ¬ ((3 : Int32) < (2 : Int32)))).2.2.2 (by decide) (by decide) ?_
      show GO p e below T0 (mkF m 280 (la5 p0 p1 p2 p3 p4 p5 (2 : Int32) (2 : Int32) r0 r1 r2 r3 b) []) _
      refine XS.iconst X0.here hx rfl (hb hby at_280) ?_
      exact kt
    exact ⟨(0 : Int32), (by simp [own_any]), fun t kt => pre679 t kt⟩
  -- pc 285: Block.holdsRear by rm_hold2_0
  obtain ⟨cq680, kq680, q680a, q680b, q680c⟩ := isOf hZ e0 E1
  obtain ⟨_, _, ⟨T680, L680, k680, n680⟩, -, X680, ⟨Lc680, hQ680, l680, y680, z680⟩, st680⟩ := X0.virtualBack hx (y := (⟨kS0, "holdsRear", "()Z"⟩ : MethodName)) (z := (⟨kS0, "holdsRear", "()Z"⟩ : MethodName)) hown (mvT hZ (wd hw 25 rfl)) (mvT hZ (wd hw 26 rfl)) (notFace_of_selects (args := #[]) (mvT hZ (wd hw 28 rfl))) (mvT hZ (wd hw 28 rfl)) (mvT hZ (wd hw 27 rfl)) (by decide) (backOf (W := 0) (rm_hold2_0 l Z a0 hw [] b t3 k3 ([(.int (nar .boolean r0)), (.int (nar .boolean r1)), (.int 0), (.int 0), (.int 0), (.int 0), (.int 0), (.int 0)]) h0 n0 (by omega) Fh Fs F3 V3) hZ (wd hw 29 rfl) (wd hw 7 rfl) (by decide) (by decide)) q680a q680c (g := (mkF m 285 (la6 p0 p1 p2 p3 p4 p5 (2 : Int32) (2 : Int32) r0 r1 r2 r3 b vv) [(.ref b)])) rfl (by rw [hml]; rfl) (Steps.refl _) (argsL := []) (rest := []) (lenOf pd_0 rfl) rfl (by show 2 * 0 + _ ≤ _; exact Nat.le_of_eq rfl) (hb hby at_285) (fun _ _ => ⟨rfl, e0, (by decide : 5 + 0 ≤ _), (by decide : 39 + 0 ≤ _)⟩)
  dsimp only [Pt.U, Pt.locs, Pt.cells, Pt.slots] at X680 l680 y680 z680 st680 hQ680
  subst l680 y680 z680
  obtain ⟨rfl, N680q, e680⟩ := hQ680
  have N680 := Fr.app N0 N680q
  have pre681 : ∀ t, Steps p.tables e below (T680.setTop (mkF m 298 (la6 p0 p1 p2 p3 p4 p5 (2 : Int32) (2 : Int32) r0 r1 r2 r3 b vv) [(.int 1)])) t → Steps p.tables e below (T0.setTop (mkF m 210 (la5 p0 p1 p2 p3 p4 p5 (2 : Int32) (2 : Int32) r0 r1 r2 r3 b) [])) t := by
    intro t kt
    refine pre678 t ?_
    show GO p e below T0 (mkF m 281 (la5 p0 p1 p2 p3 p4 p5 (2 : Int32) (2 : Int32) r0 r1 r2 r3 b) [(.int vv)]) _
    refine XS.istore X0.here hx rfl (hb hby at_281) rfl (l' := (la6 p0 p1 p2 p3 p4 p5 (2 : Int32) (2 : Int32) r0 r1 r2 r3 b vv)) rfl ?_
    show GO p e below T0 (mkF m 283 (la6 p0 p1 p2 p3 p4 p5 (2 : Int32) (2 : Int32) r0 r1 r2 r3 b vv) []) _
    refine XS.aload X0.here hx rfl (hb hby at_283) rfl rfl ?_
    show GO p e below T0 (mkF m 285 (la6 p0 p1 p2 p3 p4 p5 (2 : Int32) (2 : Int32) r0 r1 r2 r3 b vv) [(.ref b)]) _
    refine st680.trans ?_
    show GO p e below T680 (mkF m 288 (la6 p0 p1 p2 p3 p4 p5 (2 : Int32) (2 : Int32) r0 r1 r2 r3 b vv) [(.int (own_any []))]) _
    refine XS.iload X680.here hx rfl (hb hby at_288) rfl ?_
    show GO p e below T680 (mkF m 290 (la6 p0 p1 p2 p3 p4 p5 (2 : Int32) (2 : Int32) r0 r1 r2 r3 b vv) [(.int vv), (.int (own_any []))]) _
    refine XS.icmpNo X680.here hx rfl (hb hby at_290) rfl (teq ((by simp only [hvv, hb0, hb1, hb2, hb3]) : (own_any []) = vv)).2 ?_
    show GO p e below T680 (mkF m 293 (la6 p0 p1 p2 p3 p4 p5 (2 : Int32) (2 : Int32) r0 r1 r2 r3 b vv) []) _
    refine XS.iconst X680.here hx rfl (hb hby at_293) ?_
    show GO p e below T680 (mkF m 294 (la6 p0 p1 p2 p3 p4 p5 (2 : Int32) (2 : Int32) r0 r1 r2 r3 b vv) [(.int 1)]) _
    refine XS.goto X680.here hx rfl (pc0 := 294) (pc' := 298) rfl (hb hby at_294) (by decide) (by decide) ?_
    exact kt
  exact ⟨vv, T680, h0, _, X680.mono (by decide) (by decide), e680, N680, fun t kt => pre681 t kt⟩
set_option maxRecDepth 65536 in
set_option maxHeartbeats 40000000 in
theorem tail_3_0 {p : Program} {l : Launch} {e : Env} {s : State} {m : MethodId} {args : Array Value} {below : List Frame} {meth : Method} {c : Code} {T0 : State} {locs : List Loc} {Z : State} {a0 : Array Value} (p0 : Int32) (p1 : Int32) (p2 : Int32) (p3 : Int32) (p4 : Int32) (p5 : Int32) (r0 : Int32) (r1 : Int32) (r2 : Int32) (r3 : Int32) (b : Addr) (t3 : Addr) (k3 : ClassId) {h0 : Heap} {n0 : Nat}
    (X0 : Stand p l e room_1 s m args below meth c T0 locs 5 39) (hx : p.tables.exec = Jvm.exec) (hZ : Z.Warmed39 s.vm) (hw : ∀ d ∈ tables_1, d.before a0 Z = true) (hby : c.code = code) (hml : c.maxLocals = 14) (hown : s.vm.findClass "com/example/occupancy/occupancy/loading/BlockHoldsRearPinLaw" = some m.cls) (e0 : T0.heap = h0) (N0 : Fr n0 locs) (Z0 : n0 ≤ h0.size) (E1 : Exa Z h0 b kS0) (Fh : Fld Z h0 b kS0 "head" "I" (.int 0)) (Fs : Fld Z h0 b kS0 "size" "I" (.int 3)) (F3 : Fld Z h0 b kS0 "rears" "[Z" (.ref t3)) (V3 : Arv Z h0 t3 k3 .boolean (8 : Int32) [(.int (nar .boolean r0)), (.int (nar .boolean r1)), (.int (nar .boolean r2)), (.int 0), (.int 0), (.int 0), (.int 0), (.int 0)] (.int 0)) (hb0 : nar .boolean r0 = r0) (hb1 : nar .boolean r1 = r1) (hb2 : nar .boolean r2 = r2) (hb3 : nar .boolean r3 = r3) :
    ∃ vv : Int32, ∃ (T' : State) (h' : Heap) (locs' : List Loc), Stand p l e room_1 s m args below meth c T' locs' 5 39 ∧ T'.heap = h' ∧ Fr n0 locs' ∧
      ∀ target, Steps p.tables e below (T'.setTop (mkF m 298 (la6 p0 p1 p2 p3 p4 p5 (3 : Int32) (0 : Int32) r0 r1 r2 r3 b vv) [(.int 1)])) target → Steps p.tables e below (T0.setTop (mkF m 210 (la5 p0 p1 p2 p3 p4 p5 (3 : Int32) (0 : Int32) r0 r1 r2 r3 b) [])) target := by
  have pre0 : ∀ t, Steps p.tables e below (T0.setTop (mkF m 210 (la5 p0 p1 p2 p3 p4 p5 (3 : Int32) (0 : Int32) r0 r1 r2 r3 b) [])) t → Steps p.tables e below (T0.setTop (mkF m 210 (la5 p0 p1 p2 p3 p4 p5 (3 : Int32) (0 : Int32) r0 r1 r2 r3 b) [])) t := fun _ k => k
  have lt_E1 := ltA E1.lt
  have lt_Fh := ltA Fh.lt
  have lt_Fs := ltA Fs.lt
  have lt_F3 := ltA F3.lt
  have lt_V3 := ltA V3.lt
  obtain ⟨vv, hvv, pre682⟩ : ∃ vv : Int32, (vv = own_any [r0, r1, r2]) ∧ ∀ t, Steps p.tables e below (T0.setTop (mkF m 281 (la5 p0 p1 p2 p3 p4 p5 (3 : Int32) (0 : Int32) r0 r1 r2 r3 b) [(.int vv)])) t → Steps p.tables e below (T0.setTop (mkF m 210 (la5 p0 p1 p2 p3 p4 p5 (3 : Int32) (0 : Int32) r0 r1 r2 r3 b) [])) t := by
    have pre683 : ∀ t, Steps p.tables e below (T0.setTop (mkF m 222 (la5 p0 p1 p2 p3 p4 p5 (3 : Int32) (0 : Int32) r0 r1 r2 r3 b) [(.int r0)])) t → Steps p.tables e below (T0.setTop (mkF m 210 (la5 p0 p1 p2 p3 p4 p5 (3 : Int32) (0 : Int32) r0 r1 r2 r3 b) [])) t := by
      intro t kt
      refine pre0 t ?_
      show GO p e below T0 (mkF m 210 (la5 p0 p1 p2 p3 p4 p5 (3 : Int32) (0 : Int32) r0 r1 r2 r3 b) []) _
      refine XS.iload X0.here hx rfl (hb hby at_210) rfl ?_
      show GO p e below T0 (mkF m 212 (la5 p0 p1 p2 p3 p4 p5 (3 : Int32) (0 : Int32) r0 r1 r2 r3 b) [(.int 3)]) _
      refine XS.ifNo X0.here hx rfl (hb hby at_212) rfl ((if0 _ _).trans (tlt ((by decide) : (0 : Int32) < (3 : Int32))).2.2.2) ?_
      show GO p e below T0 (mkF m 215 (la5 p0 p1 p2 p3 p4 p5 (3 : Int32) (0 : Int32) r0 r1 r2 r3 b) []) _
      refine XS.iload X0.here hx rfl (hb hby at_215) rfl ?_
      show GO p e below T0 (mkF m 217 (la5 p0 p1 p2 p3 p4 p5 (3 : Int32) (0 : Int32) r0 r1 r2 r3 b) [(.int 0)]) _
      refine XS.ifNo X0.here hx rfl (hb hby at_217) rfl ((if0 _ _).trans (flt ((by decide) : ¬ ((0 : Int32) < (0 : Int32)))).2.2.1) ?_
      show GO p e below T0 (mkF m 220 (la5 p0 p1 p2 p3 p4 p5 (3 : Int32) (0 : Int32) r0 r1 r2 r3 b) []) _
      refine XS.iload X0.here hx rfl (hb hby at_220) rfl ?_
      exact kt
    by_cases hb684 : r0 = (0 : Int32)
    · have pre685 : ∀ t, Steps p.tables e below (T0.setTop (mkF m 239 (la5 p0 p1 p2 p3 p4 p5 (3 : Int32) (0 : Int32) r0 r1 r2 r3 b) [(.int r1)])) t → Steps p.tables e below (T0.setTop (mkF m 210 (la5 p0 p1 p2 p3 p4 p5 (3 : Int32) (0 : Int32) r0 r1 r2 r3 b) [])) t := by
        intro t kt
        refine pre683 t ?_
        show GO p e below T0 (mkF m 222 (la5 p0 p1 p2 p3 p4 p5 (3 : Int32) (0 : Int32) r0 r1 r2 r3 b) [(.int r0)]) _
        refine XS.ifNo X0.here hx rfl (hb hby at_222) rfl ((if0 _ _).trans (teq (hb684 : r0 = (0 : Int32))).2) ?_
        show GO p e below T0 (mkF m 225 (la5 p0 p1 p2 p3 p4 p5 (3 : Int32) (0 : Int32) r0 r1 r2 r3 b) []) _
        refine XS.iload X0.here hx rfl (hb hby at_225) rfl ?_
        show GO p e below T0 (mkF m 227 (la5 p0 p1 p2 p3 p4 p5 (3 : Int32) (0 : Int32) r0 r1 r2 r3 b) [(.int 3)]) _
        refine XS.iconst X0.here hx rfl (hb hby at_227) ?_
        show GO p e below T0 (mkF m 228 (la5 p0 p1 p2 p3 p4 p5 (3 : Int32) (0 : Int32) r0 r1 r2 r3 b) [(.int 1), (.int 3)]) _
        refine XS.icmpNo X0.here hx rfl (hb hby at_228) rfl (tlt ((by decide) : (1 : Int32) < (3 : Int32))).2.2.2 ?_
        show GO p e below T0 (mkF m 231 (la5 p0 p1 p2 p3 p4 p5 (3 : Int32) (0 : Int32) r0 r1 r2 r3 b) []) _
        refine XS.iload X0.here hx rfl (hb hby at_231) rfl ?_
        show GO p e below T0 (mkF m 233 (la5 p0 p1 p2 p3 p4 p5 (3 : Int32) (0 : Int32) r0 r1 r2 r3 b) [(.int 0)]) _
        refine XS.iconst X0.here hx rfl (hb hby at_233) ?_
        show GO p e below T0 (mkF m 234 (la5 p0 p1 p2 p3 p4 p5 (3 : Int32) (0 : Int32) r0 r1 r2 r3 b) [(.int 1), (.int 0)]) _
        refine XS.icmpNo X0.here hx rfl (hb hby at_234) rfl (flt ((by decide) : ¬ ((1 : Int32) < (0 : Int32)))).2.2.1 ?_
        show GO p e below T0 (mkF m 237 (la5 p0 p1 p2 p3 p4 p5 (3 : Int32) (0 : Int32) r0 r1 r2 r3 b) []) _
        refine XS.iload X0.here hx rfl (hb hby at_237) rfl ?_
        exact kt
      by_cases hb686 : r1 = (0 : Int32)
      · have pre687 : ∀ t, Steps p.tables e below (T0.setTop (mkF m 256 (la5 p0 p1 p2 p3 p4 p5 (3 : Int32) (0 : Int32) r0 r1 r2 r3 b) [(.int r2)])) t → Steps p.tables e below (T0.setTop (mkF m 210 (la5 p0 p1 p2 p3 p4 p5 (3 : Int32) (0 : Int32) r0 r1 r2 r3 b) [])) t := by
          intro t kt
          refine pre685 t ?_
          show GO p e below T0 (mkF m 239 (la5 p0 p1 p2 p3 p4 p5 (3 : Int32) (0 : Int32) r0 r1 r2 r3 b) [(.int r1)]) _
          refine XS.ifNo X0.here hx rfl (hb hby at_239) rfl ((if0 _ _).trans (teq (hb686 : r1 = (0 : Int32))).2) ?_
          show GO p e below T0 (mkF m 242 (la5 p0 p1 p2 p3 p4 p5 (3 : Int32) (0 : Int32) r0 r1 r2 r3 b) []) _
          refine XS.iload X0.here hx rfl (hb hby at_242) rfl ?_
          show GO p e below T0 (mkF m 244 (la5 p0 p1 p2 p3 p4 p5 (3 : Int32) (0 : Int32) r0 r1 r2 r3 b) [(.int 3)]) _
          refine XS.iconst X0.here hx rfl (hb hby at_244) ?_
          show GO p e below T0 (mkF m 245 (la5 p0 p1 p2 p3 p4 p5 (3 : Int32) (0 : Int32) r0 r1 r2 r3 b) [(.int 2), (.int 3)]) _
          refine XS.icmpNo X0.here hx rfl (hb hby at_245) rfl (tlt ((by decide) : (2 : Int32) < (3 : Int32))).2.2.2 ?_
          show GO p e below T0 (mkF m 248 (la5 p0 p1 p2 p3 p4 p5 (3 : Int32) (0 : Int32) r0 r1 r2 r3 b) []) _
          refine XS.iload X0.here hx rfl (hb hby at_248) rfl ?_
          show GO p e below T0 (mkF m 250 (la5 p0 p1 p2 p3 p4 p5 (3 : Int32) (0 : Int32) r0 r1 r2 r3 b) [(.int 0)]) _
          refine XS.iconst X0.here hx rfl (hb hby at_250) ?_
          show GO p e below T0 (mkF m 251 (la5 p0 p1 p2 p3 p4 p5 (3 : Int32) (0 : Int32) r0 r1 r2 r3 b) [(.int 2), (.int 0)]) _
          refine XS.icmpNo X0.here hx rfl (hb hby at_251) rfl (flt ((by decide) : ¬ ((2 : Int32) < (0 : Int32)))).2.2.1 ?_
          show GO p e below T0 (mkF m 254 (la5 p0 p1 p2 p3 p4 p5 (3 : Int32) (0 : Int32) r0 r1 r2 r3 b) []) _
          refine XS.iload X0.here hx rfl (hb hby at_254) rfl ?_
          exact kt
        by_cases hb688 : r2 = (0 : Int32)
        · have pre689 : ∀ t, Steps p.tables e below (T0.setTop (mkF m 281 (la5 p0 p1 p2 p3 p4 p5 (3 : Int32) (0 : Int32) r0 r1 r2 r3 b) [(.int 0)])) t → Steps p.tables e below (T0.setTop (mkF m 210 (la5 p0 p1 p2 p3 p4 p5 (3 : Int32) (0 : Int32) r0 r1 r2 r3 b) [])) t := by
            intro t kt
            refine pre687 t ?_
            show GO p e below T0 (mkF m 256 (la5 p0 p1 p2 p3 p4 p5 (3 : Int32) (0 : Int32) r0 r1 r2 r3 b) [(.int r2)]) _
            refine XS.ifNo X0.here hx rfl (hb hby at_256) rfl ((if0 _ _).trans (teq (hb688 : r2 = (0 : Int32))).2) ?_
            show GO p e below T0 (mkF m 259 (la5 p0 p1 p2 p3 p4 p5 (3 : Int32) (0 : Int32) r0 r1 r2 r3 b) []) _
            refine XS.iload X0.here hx rfl (hb hby at_259) rfl ?_
            show GO p e below T0 (mkF m 261 (la5 p0 p1 p2 p3 p4 p5 (3 : Int32) (0 : Int32) r0 r1 r2 r3 b) [(.int 3)]) _
            refine XS.iconst X0.here hx rfl (hb hby at_261) ?_
            show GO p e below T0 (mkF m 262 (la5 p0 p1 p2 p3 p4 p5 (3 : Int32) (0 : Int32) r0 r1 r2 r3 b) [(.int 3), (.int 3)]) _
            refine XS.icmpYes X0.here hx rfl (pc0 := 262) (pc' := 280) rfl (hb hby at_262) rfl (flt ((by decide) : ¬ ((3 : Int32) < (3 : Int32)))).2.2.2 (by decide) (by decide) ?_
            show GO p e below T0 (mkF m 280 (la5 p0 p1 p2 p3 p4 p5 (3 : Int32) (0 : Int32) r0 r1 r2 r3 b) []) _
            refine XS.iconst X0.here hx rfl (hb hby at_280) ?_
            exact kt
          exact ⟨(0 : Int32), (by simp [own_any, hb684, hb686, hb688]), fun t kt => pre689 t kt⟩
        · have pre690 : ∀ t, Steps p.tables e below (T0.setTop (mkF m 281 (la5 p0 p1 p2 p3 p4 p5 (3 : Int32) (0 : Int32) r0 r1 r2 r3 b) [(.int 1)])) t → Steps p.tables e below (T0.setTop (mkF m 210 (la5 p0 p1 p2 p3 p4 p5 (3 : Int32) (0 : Int32) r0 r1 r2 r3 b) [])) t := by
            intro t kt
            refine pre687 t ?_
            show GO p e below T0 (mkF m 256 (la5 p0 p1 p2 p3 p4 p5 (3 : Int32) (0 : Int32) r0 r1 r2 r3 b) [(.int r2)]) _
            refine XS.ifYes X0.here hx rfl (pc0 := 256) (pc' := 276) rfl (hb hby at_256) rfl ((if0 _ _).trans (feq (hb688 : ¬ (r2 = (0 : Int32)))).2) (by decide) (by decide) ?_
            show GO p e below T0 (mkF m 276 (la5 p0 p1 p2 p3 p4 p5 (3 : Int32) (0 : Int32) r0 r1 r2 r3 b) []) _
            refine XS.iconst X0.here hx rfl (hb hby at_276) ?_
            show GO p e below T0 (mkF m 277 (la5 p0 p1 p2 p3 p4 p5 (3 : Int32) (0 : Int32) r0 r1 r2 r3 b) [(.int 1)]) _
            refine XS.goto X0.here hx rfl (pc0 := 277) (pc' := 281) rfl (hb hby at_277) (by decide) (by decide) ?_
            exact kt
          exact ⟨(1 : Int32), (by simp [own_any, hb684, hb686, hb688]), fun t kt => pre690 t kt⟩
      · have pre691 : ∀ t, Steps p.tables e below (T0.setTop (mkF m 281 (la5 p0 p1 p2 p3 p4 p5 (3 : Int32) (0 : Int32) r0 r1 r2 r3 b) [(.int 1)])) t → Steps p.tables e below (T0.setTop (mkF m 210 (la5 p0 p1 p2 p3 p4 p5 (3 : Int32) (0 : Int32) r0 r1 r2 r3 b) [])) t := by
          intro t kt
          refine pre685 t ?_
          show GO p e below T0 (mkF m 239 (la5 p0 p1 p2 p3 p4 p5 (3 : Int32) (0 : Int32) r0 r1 r2 r3 b) [(.int r1)]) _
          refine XS.ifYes X0.here hx rfl (pc0 := 239) (pc' := 276) rfl (hb hby at_239) rfl ((if0 _ _).trans (feq (hb686 : ¬ (r1 = (0 : Int32)))).2) (by decide) (by decide) ?_
          show GO p e below T0 (mkF m 276 (la5 p0 p1 p2 p3 p4 p5 (3 : Int32) (0 : Int32) r0 r1 r2 r3 b) []) _
          refine XS.iconst X0.here hx rfl (hb hby at_276) ?_
          show GO p e below T0 (mkF m 277 (la5 p0 p1 p2 p3 p4 p5 (3 : Int32) (0 : Int32) r0 r1 r2 r3 b) [(.int 1)]) _
          refine XS.goto X0.here hx rfl (pc0 := 277) (pc' := 281) rfl (hb hby at_277) (by decide) (by decide) ?_
          exact kt
        exact ⟨(1 : Int32), (by simp [own_any, hb684, hb686]), fun t kt => pre691 t kt⟩
    · have pre692 : ∀ t, Steps p.tables e below (T0.setTop (mkF m 281 (la5 p0 p1 p2 p3 p4 p5 (3 : Int32) (0 : Int32) r0 r1 r2 r3 b) [(.int 1)])) t → Steps p.tables e below (T0.setTop (mkF m 210 (la5 p0 p1 p2 p3 p4 p5 (3 : Int32) (0 : Int32) r0 r1 r2 r3 b) [])) t := by
        intro t kt
        refine pre683 t ?_
        show GO p e below T0 (mkF m 222 (la5 p0 p1 p2 p3 p4 p5 (3 : Int32) (0 : Int32) r0 r1 r2 r3 b) [(.int r0)]) _
        refine XS.ifYes X0.here hx rfl (pc0 := 222) (pc' := 276) rfl (hb hby at_222) rfl ((if0 _ _).trans (feq (hb684 : ¬ (r0 = (0 : Int32)))).2) (by decide) (by decide) ?_
        show GO p e below T0 (mkF m 276 (la5 p0 p1 p2 p3 p4 p5 (3 : Int32) (0 : Int32) r0 r1 r2 r3 b) []) _
        refine XS.iconst X0.here hx rfl (hb hby at_276) ?_
        show GO p e below T0 (mkF m 277 (la5 p0 p1 p2 p3 p4 p5 (3 : Int32) (0 : Int32) r0 r1 r2 r3 b) [(.int 1)]) _
        refine XS.goto X0.here hx rfl (pc0 := 277) (pc' := 281) rfl (hb hby at_277) (by decide) (by decide) ?_
        exact kt
      exact ⟨(1 : Int32), (by simp [own_any, hb684]), fun t kt => pre692 t kt⟩
  -- pc 285: Block.holdsRear by rm_hold0_3
  obtain ⟨cq693, kq693, q693a, q693b, q693c⟩ := isOf hZ e0 E1
  obtain ⟨_, _, ⟨T693, L693, k693, n693⟩, -, X693, ⟨Lc693, hQ693, l693, y693, z693⟩, st693⟩ := X0.virtualBack hx (y := (⟨kS0, "holdsRear", "()Z"⟩ : MethodName)) (z := (⟨kS0, "holdsRear", "()Z"⟩ : MethodName)) hown (mvT hZ (wd hw 25 rfl)) (mvT hZ (wd hw 26 rfl)) (notFace_of_selects (args := #[]) (mvT hZ (wd hw 28 rfl))) (mvT hZ (wd hw 28 rfl)) (mvT hZ (wd hw 27 rfl)) (by decide) (backOf (W := 0) (rm_hold0_3 l Z a0 hw [] b t3 k3 ([(.int (nar .boolean r0)), (.int (nar .boolean r1)), (.int (nar .boolean r2)), (.int 0), (.int 0), (.int 0), (.int 0), (.int 0)]) (nar .boolean r0) (nar .boolean r1) (nar .boolean r2) h0 n0 (by omega) Fh Fs F3 V3 rfl rfl rfl) hZ (wd hw 29 rfl) (wd hw 7 rfl) (by decide) (by decide)) q693a q693c (g := (mkF m 285 (la6 p0 p1 p2 p3 p4 p5 (3 : Int32) (0 : Int32) r0 r1 r2 r3 b vv) [(.ref b)])) rfl (by rw [hml]; rfl) (Steps.refl _) (argsL := []) (rest := []) (lenOf pd_0 rfl) rfl (by show 2 * 0 + _ ≤ _; exact Nat.le_of_eq rfl) (hb hby at_285) (fun _ _ => ⟨rfl, e0, (by decide : 5 + 0 ≤ _), (by decide : 39 + 0 ≤ _)⟩)
  dsimp only [Pt.U, Pt.locs, Pt.cells, Pt.slots] at X693 l693 y693 z693 st693 hQ693
  subst l693 y693 z693
  obtain ⟨rfl, N693q, e693⟩ := hQ693
  have N693 := Fr.app N0 N693q
  have pre694 : ∀ t, Steps p.tables e below (T693.setTop (mkF m 298 (la6 p0 p1 p2 p3 p4 p5 (3 : Int32) (0 : Int32) r0 r1 r2 r3 b vv) [(.int 1)])) t → Steps p.tables e below (T0.setTop (mkF m 210 (la5 p0 p1 p2 p3 p4 p5 (3 : Int32) (0 : Int32) r0 r1 r2 r3 b) [])) t := by
    intro t kt
    refine pre682 t ?_
    show GO p e below T0 (mkF m 281 (la5 p0 p1 p2 p3 p4 p5 (3 : Int32) (0 : Int32) r0 r1 r2 r3 b) [(.int vv)]) _
    refine XS.istore X0.here hx rfl (hb hby at_281) rfl (l' := (la6 p0 p1 p2 p3 p4 p5 (3 : Int32) (0 : Int32) r0 r1 r2 r3 b vv)) rfl ?_
    show GO p e below T0 (mkF m 283 (la6 p0 p1 p2 p3 p4 p5 (3 : Int32) (0 : Int32) r0 r1 r2 r3 b vv) []) _
    refine XS.aload X0.here hx rfl (hb hby at_283) rfl rfl ?_
    show GO p e below T0 (mkF m 285 (la6 p0 p1 p2 p3 p4 p5 (3 : Int32) (0 : Int32) r0 r1 r2 r3 b vv) [(.ref b)]) _
    refine st693.trans ?_
    show GO p e below T693 (mkF m 288 (la6 p0 p1 p2 p3 p4 p5 (3 : Int32) (0 : Int32) r0 r1 r2 r3 b vv) [(.int (own_any [(nar .boolean r0), (nar .boolean r1), (nar .boolean r2)]))]) _
    refine XS.iload X693.here hx rfl (hb hby at_288) rfl ?_
    show GO p e below T693 (mkF m 290 (la6 p0 p1 p2 p3 p4 p5 (3 : Int32) (0 : Int32) r0 r1 r2 r3 b vv) [(.int vv), (.int (own_any [(nar .boolean r0), (nar .boolean r1), (nar .boolean r2)]))]) _
    refine XS.icmpNo X693.here hx rfl (hb hby at_290) rfl (teq ((by simp only [hvv, hb0, hb1, hb2, hb3]) : (own_any [(nar .boolean r0), (nar .boolean r1), (nar .boolean r2)]) = vv)).2 ?_
    show GO p e below T693 (mkF m 293 (la6 p0 p1 p2 p3 p4 p5 (3 : Int32) (0 : Int32) r0 r1 r2 r3 b vv) []) _
    refine XS.iconst X693.here hx rfl (hb hby at_293) ?_
    show GO p e below T693 (mkF m 294 (la6 p0 p1 p2 p3 p4 p5 (3 : Int32) (0 : Int32) r0 r1 r2 r3 b vv) [(.int 1)]) _
    refine XS.goto X693.here hx rfl (pc0 := 294) (pc' := 298) rfl (hb hby at_294) (by decide) (by decide) ?_
    exact kt
  exact ⟨vv, T693, h0, _, X693.mono (by decide) (by decide), e693, N693, fun t kt => pre694 t kt⟩
set_option maxRecDepth 65536 in
set_option maxHeartbeats 40000000 in
theorem tail_3_1 {p : Program} {l : Launch} {e : Env} {s : State} {m : MethodId} {args : Array Value} {below : List Frame} {meth : Method} {c : Code} {T0 : State} {locs : List Loc} {Z : State} {a0 : Array Value} (p0 : Int32) (p1 : Int32) (p2 : Int32) (p3 : Int32) (p4 : Int32) (p5 : Int32) (r0 : Int32) (r1 : Int32) (r2 : Int32) (r3 : Int32) (b : Addr) (t3 : Addr) (k3 : ClassId) {h0 : Heap} {n0 : Nat}
    (X0 : Stand p l e room_1 s m args below meth c T0 locs 5 39) (hx : p.tables.exec = Jvm.exec) (hZ : Z.Warmed39 s.vm) (hw : ∀ d ∈ tables_1, d.before a0 Z = true) (hby : c.code = code) (hml : c.maxLocals = 14) (hown : s.vm.findClass "com/example/occupancy/occupancy/loading/BlockHoldsRearPinLaw" = some m.cls) (e0 : T0.heap = h0) (N0 : Fr n0 locs) (Z0 : n0 ≤ h0.size) (E1 : Exa Z h0 b kS0) (Fh : Fld Z h0 b kS0 "head" "I" (.int 1)) (Fs : Fld Z h0 b kS0 "size" "I" (.int 2)) (F3 : Fld Z h0 b kS0 "rears" "[Z" (.ref t3)) (V3 : Arv Z h0 t3 k3 .boolean (8 : Int32) [(.int (nar .boolean r0)), (.int (nar .boolean r1)), (.int (nar .boolean r2)), (.int 0), (.int 0), (.int 0), (.int 0), (.int 0)] (.int 0)) (hb0 : nar .boolean r0 = r0) (hb1 : nar .boolean r1 = r1) (hb2 : nar .boolean r2 = r2) (hb3 : nar .boolean r3 = r3) :
    ∃ vv : Int32, ∃ (T' : State) (h' : Heap) (locs' : List Loc), Stand p l e room_1 s m args below meth c T' locs' 5 39 ∧ T'.heap = h' ∧ Fr n0 locs' ∧
      ∀ target, Steps p.tables e below (T'.setTop (mkF m 298 (la6 p0 p1 p2 p3 p4 p5 (3 : Int32) (1 : Int32) r0 r1 r2 r3 b vv) [(.int 1)])) target → Steps p.tables e below (T0.setTop (mkF m 210 (la5 p0 p1 p2 p3 p4 p5 (3 : Int32) (1 : Int32) r0 r1 r2 r3 b) [])) target := by
  have pre0 : ∀ t, Steps p.tables e below (T0.setTop (mkF m 210 (la5 p0 p1 p2 p3 p4 p5 (3 : Int32) (1 : Int32) r0 r1 r2 r3 b) [])) t → Steps p.tables e below (T0.setTop (mkF m 210 (la5 p0 p1 p2 p3 p4 p5 (3 : Int32) (1 : Int32) r0 r1 r2 r3 b) [])) t := fun _ k => k
  have lt_E1 := ltA E1.lt
  have lt_Fh := ltA Fh.lt
  have lt_Fs := ltA Fs.lt
  have lt_F3 := ltA F3.lt
  have lt_V3 := ltA V3.lt
  obtain ⟨vv, hvv, pre695⟩ : ∃ vv : Int32, (vv = own_any [r1, r2]) ∧ ∀ t, Steps p.tables e below (T0.setTop (mkF m 281 (la5 p0 p1 p2 p3 p4 p5 (3 : Int32) (1 : Int32) r0 r1 r2 r3 b) [(.int vv)])) t → Steps p.tables e below (T0.setTop (mkF m 210 (la5 p0 p1 p2 p3 p4 p5 (3 : Int32) (1 : Int32) r0 r1 r2 r3 b) [])) t := by
    have pre696 : ∀ t, Steps p.tables e below (T0.setTop (mkF m 239 (la5 p0 p1 p2 p3 p4 p5 (3 : Int32) (1 : Int32) r0 r1 r2 r3 b) [(.int r1)])) t → Steps p.tables e below (T0.setTop (mkF m 210 (la5 p0 p1 p2 p3 p4 p5 (3 : Int32) (1 : Int32) r0 r1 r2 r3 b) [])) t := by
      intro t kt
      refine pre0 t ?_
      show GO p e below T0 (mkF m 210 (la5 p0 p1 p2 p3 p4 p5 (3 : Int32) (1 : Int32) r0 r1 r2 r3 b) []) _
      refine XS.iload X0.here hx rfl (hb hby at_210) rfl ?_
      show GO p e below T0 (mkF m 212 (la5 p0 p1 p2 p3 p4 p5 (3 : Int32) (1 : Int32) r0 r1 r2 r3 b) [(.int 3)]) _
      refine XS.ifNo X0.here hx rfl (hb hby at_212) rfl ((if0 _ _).trans (tlt ((by decide) : (0 : Int32) < (3 : Int32))).2.2.2) ?_
      show GO p e below T0 (mkF m 215 (la5 p0 p1 p2 p3 p4 p5 (3 : Int32) (1 : Int32) r0 r1 r2 r3 b) []) _
      refine XS.iload X0.here hx rfl (hb hby at_215) rfl ?_
      show GO p e below T0 (mkF m 217 (la5 p0 p1 p2 p3 p4 p5 (3 : Int32) (1 : Int32) r0 r1 r2 r3 b) [(.int 1)]) _
      refine XS.ifYes X0.here hx rfl (pc0 := 217) (pc' := 225) rfl (hb hby at_217) rfl ((if0 _ _).trans (tlt ((by decide) : (0 : Int32) < (1 : Int32))).2.2.1) (by decide) (by decide) ?_
      show GO p e below T0 (mkF m 225 (la5 p0 p1 p2 p3 p4 p5 (3 : Int32) (1 : Int32) r0 r1 r2 r3 b) []) _
      refine XS.iload X0.here hx rfl (hb hby at_225) rfl ?_
      show GO p e below T0 (mkF m 227 (la5 p0 p1 p2 p3 p4 p5 (3 : Int32) (1 : Int32) r0 r1 r2 r3 b) [(.int 3)]) _
      refine XS.iconst X0.here hx rfl (hb hby at_227) ?_
      show GO p e below T0 (mkF m 228 (la5 p0 p1 p2 p3 p4 p5 (3 : Int32) (1 : Int32) r0 r1 r2 r3 b) [(.int 1), (.int 3)]) _
      refine XS.icmpNo X0.here hx rfl (hb hby at_228) rfl (tlt ((by decide) : (1 : Int32) < (3 : Int32))).2.2.2 ?_
      show GO p e below T0 (mkF m 231 (la5 p0 p1 p2 p3 p4 p5 (3 : Int32) (1 : Int32) r0 r1 r2 r3 b) []) _
      refine XS.iload X0.here hx rfl (hb hby at_231) rfl ?_
      show GO p e below T0 (mkF m 233 (la5 p0 p1 p2 p3 p4 p5 (3 : Int32) (1 : Int32) r0 r1 r2 r3 b) [(.int 1)]) _
      refine XS.iconst X0.here hx rfl (hb hby at_233) ?_
      show GO p e below T0 (mkF m 234 (la5 p0 p1 p2 p3 p4 p5 (3 : Int32) (1 : Int32) r0 r1 r2 r3 b) [(.int 1), (.int 1)]) _
      refine XS.icmpNo X0.here hx rfl (hb hby at_234) rfl (flt ((by decide) : ¬ ((1 : Int32) < (1 : Int32)))).2.2.1 ?_
      show GO p e below T0 (mkF m 237 (la5 p0 p1 p2 p3 p4 p5 (3 : Int32) (1 : Int32) r0 r1 r2 r3 b) []) _
      refine XS.iload X0.here hx rfl (hb hby at_237) rfl ?_
      exact kt
    by_cases hb697 : r1 = (0 : Int32)
    · have pre698 : ∀ t, Steps p.tables e below (T0.setTop (mkF m 256 (la5 p0 p1 p2 p3 p4 p5 (3 : Int32) (1 : Int32) r0 r1 r2 r3 b) [(.int r2)])) t → Steps p.tables e below (T0.setTop (mkF m 210 (la5 p0 p1 p2 p3 p4 p5 (3 : Int32) (1 : Int32) r0 r1 r2 r3 b) [])) t := by
        intro t kt
        refine pre696 t ?_
        show GO p e below T0 (mkF m 239 (la5 p0 p1 p2 p3 p4 p5 (3 : Int32) (1 : Int32) r0 r1 r2 r3 b) [(.int r1)]) _
        refine XS.ifNo X0.here hx rfl (hb hby at_239) rfl ((if0 _ _).trans (teq (hb697 : r1 = (0 : Int32))).2) ?_
        show GO p e below T0 (mkF m 242 (la5 p0 p1 p2 p3 p4 p5 (3 : Int32) (1 : Int32) r0 r1 r2 r3 b) []) _
        refine XS.iload X0.here hx rfl (hb hby at_242) rfl ?_
        show GO p e below T0 (mkF m 244 (la5 p0 p1 p2 p3 p4 p5 (3 : Int32) (1 : Int32) r0 r1 r2 r3 b) [(.int 3)]) _
        refine XS.iconst X0.here hx rfl (hb hby at_244) ?_
        show GO p e below T0 (mkF m 245 (la5 p0 p1 p2 p3 p4 p5 (3 : Int32) (1 : Int32) r0 r1 r2 r3 b) [(.int 2), (.int 3)]) _
        refine XS.icmpNo X0.here hx rfl (hb hby at_245) rfl (tlt ((by decide) : (2 : Int32) < (3 : Int32))).2.2.2 ?_
        show GO p e below T0 (mkF m 248 (la5 p0 p1 p2 p3 p4 p5 (3 : Int32) (1 : Int32) r0 r1 r2 r3 b) []) _
        refine XS.iload X0.here hx rfl (hb hby at_248) rfl ?_
        show GO p e below T0 (mkF m 250 (la5 p0 p1 p2 p3 p4 p5 (3 : Int32) (1 : Int32) r0 r1 r2 r3 b) [(.int 1)]) _
        refine XS.iconst X0.here hx rfl (hb hby at_250) ?_
        show GO p e below T0 (mkF m 251 (la5 p0 p1 p2 p3 p4 p5 (3 : Int32) (1 : Int32) r0 r1 r2 r3 b) [(.int 2), (.int 1)]) _
        refine XS.icmpNo X0.here hx rfl (hb hby at_251) rfl (flt ((by decide) : ¬ ((2 : Int32) < (1 : Int32)))).2.2.1 ?_
        show GO p e below T0 (mkF m 254 (la5 p0 p1 p2 p3 p4 p5 (3 : Int32) (1 : Int32) r0 r1 r2 r3 b) []) _
        refine XS.iload X0.here hx rfl (hb hby at_254) rfl ?_
        exact kt
      by_cases hb699 : r2 = (0 : Int32)
      · have pre700 : ∀ t, Steps p.tables e below (T0.setTop (mkF m 281 (la5 p0 p1 p2 p3 p4 p5 (3 : Int32) (1 : Int32) r0 r1 r2 r3 b) [(.int 0)])) t → Steps p.tables e below (T0.setTop (mkF m 210 (la5 p0 p1 p2 p3 p4 p5 (3 : Int32) (1 : Int32) r0 r1 r2 r3 b) [])) t := by
          intro t kt
          refine pre698 t ?_
          show GO p e below T0 (mkF m 256 (la5 p0 p1 p2 p3 p4 p5 (3 : Int32) (1 : Int32) r0 r1 r2 r3 b) [(.int r2)]) _
          refine XS.ifNo X0.here hx rfl (hb hby at_256) rfl ((if0 _ _).trans (teq (hb699 : r2 = (0 : Int32))).2) ?_
          show GO p e below T0 (mkF m 259 (la5 p0 p1 p2 p3 p4 p5 (3 : Int32) (1 : Int32) r0 r1 r2 r3 b) []) _
          refine XS.iload X0.here hx rfl (hb hby at_259) rfl ?_
          show GO p e below T0 (mkF m 261 (la5 p0 p1 p2 p3 p4 p5 (3 : Int32) (1 : Int32) r0 r1 r2 r3 b) [(.int 3)]) _
          refine XS.iconst X0.here hx rfl (hb hby at_261) ?_
          show GO p e below T0 (mkF m 262 (la5 p0 p1 p2 p3 p4 p5 (3 : Int32) (1 : Int32) r0 r1 r2 r3 b) [(.int 3), (.int 3)]) _
          refine XS.icmpYes X0.here hx rfl (pc0 := 262) (pc' := 280) rfl (hb hby at_262) rfl (flt ((by decide) : ¬ ((3 : Int32) < (3 : Int32)))).2.2.2 (by decide) (by decide) ?_
          show GO p e below T0 (mkF m 280 (la5 p0 p1 p2 p3 p4 p5 (3 : Int32) (1 : Int32) r0 r1 r2 r3 b) []) _
          refine XS.iconst X0.here hx rfl (hb hby at_280) ?_
          exact kt
        exact ⟨(0 : Int32), (by simp [own_any, hb697, hb699]), fun t kt => pre700 t kt⟩
      · have pre701 : ∀ t, Steps p.tables e below (T0.setTop (mkF m 281 (la5 p0 p1 p2 p3 p4 p5 (3 : Int32) (1 : Int32) r0 r1 r2 r3 b) [(.int 1)])) t → Steps p.tables e below (T0.setTop (mkF m 210 (la5 p0 p1 p2 p3 p4 p5 (3 : Int32) (1 : Int32) r0 r1 r2 r3 b) [])) t := by
          intro t kt
          refine pre698 t ?_
          show GO p e below T0 (mkF m 256 (la5 p0 p1 p2 p3 p4 p5 (3 : Int32) (1 : Int32) r0 r1 r2 r3 b) [(.int r2)]) _
          refine XS.ifYes X0.here hx rfl (pc0 := 256) (pc' := 276) rfl (hb hby at_256) rfl ((if0 _ _).trans (feq (hb699 : ¬ (r2 = (0 : Int32)))).2) (by decide) (by decide) ?_
          show GO p e below T0 (mkF m 276 (la5 p0 p1 p2 p3 p4 p5 (3 : Int32) (1 : Int32) r0 r1 r2 r3 b) []) _
          refine XS.iconst X0.here hx rfl (hb hby at_276) ?_
          show GO p e below T0 (mkF m 277 (la5 p0 p1 p2 p3 p4 p5 (3 : Int32) (1 : Int32) r0 r1 r2 r3 b) [(.int 1)]) _
          refine XS.goto X0.here hx rfl (pc0 := 277) (pc' := 281) rfl (hb hby at_277) (by decide) (by decide) ?_
          exact kt
        exact ⟨(1 : Int32), (by simp [own_any, hb697, hb699]), fun t kt => pre701 t kt⟩
    · have pre702 : ∀ t, Steps p.tables e below (T0.setTop (mkF m 281 (la5 p0 p1 p2 p3 p4 p5 (3 : Int32) (1 : Int32) r0 r1 r2 r3 b) [(.int 1)])) t → Steps p.tables e below (T0.setTop (mkF m 210 (la5 p0 p1 p2 p3 p4 p5 (3 : Int32) (1 : Int32) r0 r1 r2 r3 b) [])) t := by
        intro t kt
        refine pre696 t ?_
        show GO p e below T0 (mkF m 239 (la5 p0 p1 p2 p3 p4 p5 (3 : Int32) (1 : Int32) r0 r1 r2 r3 b) [(.int r1)]) _
        refine XS.ifYes X0.here hx rfl (pc0 := 239) (pc' := 276) rfl (hb hby at_239) rfl ((if0 _ _).trans (feq (hb697 : ¬ (r1 = (0 : Int32)))).2) (by decide) (by decide) ?_
        show GO p e below T0 (mkF m 276 (la5 p0 p1 p2 p3 p4 p5 (3 : Int32) (1 : Int32) r0 r1 r2 r3 b) []) _
        refine XS.iconst X0.here hx rfl (hb hby at_276) ?_
        show GO p e below T0 (mkF m 277 (la5 p0 p1 p2 p3 p4 p5 (3 : Int32) (1 : Int32) r0 r1 r2 r3 b) [(.int 1)]) _
        refine XS.goto X0.here hx rfl (pc0 := 277) (pc' := 281) rfl (hb hby at_277) (by decide) (by decide) ?_
        exact kt
      exact ⟨(1 : Int32), (by simp [own_any, hb697]), fun t kt => pre702 t kt⟩
  -- pc 285: Block.holdsRear by rm_hold1_2
  obtain ⟨cq703, kq703, q703a, q703b, q703c⟩ := isOf hZ e0 E1
  obtain ⟨_, _, ⟨T703, L703, k703, n703⟩, -, X703, ⟨Lc703, hQ703, l703, y703, z703⟩, st703⟩ := X0.virtualBack hx (y := (⟨kS0, "holdsRear", "()Z"⟩ : MethodName)) (z := (⟨kS0, "holdsRear", "()Z"⟩ : MethodName)) hown (mvT hZ (wd hw 25 rfl)) (mvT hZ (wd hw 26 rfl)) (notFace_of_selects (args := #[]) (mvT hZ (wd hw 28 rfl))) (mvT hZ (wd hw 28 rfl)) (mvT hZ (wd hw 27 rfl)) (by decide) (backOf (W := 0) (rm_hold1_2 l Z a0 hw [] b t3 k3 ([(.int (nar .boolean r0)), (.int (nar .boolean r1)), (.int (nar .boolean r2)), (.int 0), (.int 0), (.int 0), (.int 0), (.int 0)]) (nar .boolean r1) (nar .boolean r2) h0 n0 (by omega) Fh Fs F3 V3 rfl rfl) hZ (wd hw 29 rfl) (wd hw 7 rfl) (by decide) (by decide)) q703a q703c (g := (mkF m 285 (la6 p0 p1 p2 p3 p4 p5 (3 : Int32) (1 : Int32) r0 r1 r2 r3 b vv) [(.ref b)])) rfl (by rw [hml]; rfl) (Steps.refl _) (argsL := []) (rest := []) (lenOf pd_0 rfl) rfl (by show 2 * 0 + _ ≤ _; exact Nat.le_of_eq rfl) (hb hby at_285) (fun _ _ => ⟨rfl, e0, (by decide : 5 + 0 ≤ _), (by decide : 39 + 0 ≤ _)⟩)
  dsimp only [Pt.U, Pt.locs, Pt.cells, Pt.slots] at X703 l703 y703 z703 st703 hQ703
  subst l703 y703 z703
  obtain ⟨rfl, N703q, e703⟩ := hQ703
  have N703 := Fr.app N0 N703q
  have pre704 : ∀ t, Steps p.tables e below (T703.setTop (mkF m 298 (la6 p0 p1 p2 p3 p4 p5 (3 : Int32) (1 : Int32) r0 r1 r2 r3 b vv) [(.int 1)])) t → Steps p.tables e below (T0.setTop (mkF m 210 (la5 p0 p1 p2 p3 p4 p5 (3 : Int32) (1 : Int32) r0 r1 r2 r3 b) [])) t := by
    intro t kt
    refine pre695 t ?_
    show GO p e below T0 (mkF m 281 (la5 p0 p1 p2 p3 p4 p5 (3 : Int32) (1 : Int32) r0 r1 r2 r3 b) [(.int vv)]) _
    refine XS.istore X0.here hx rfl (hb hby at_281) rfl (l' := (la6 p0 p1 p2 p3 p4 p5 (3 : Int32) (1 : Int32) r0 r1 r2 r3 b vv)) rfl ?_
    show GO p e below T0 (mkF m 283 (la6 p0 p1 p2 p3 p4 p5 (3 : Int32) (1 : Int32) r0 r1 r2 r3 b vv) []) _
    refine XS.aload X0.here hx rfl (hb hby at_283) rfl rfl ?_
    show GO p e below T0 (mkF m 285 (la6 p0 p1 p2 p3 p4 p5 (3 : Int32) (1 : Int32) r0 r1 r2 r3 b vv) [(.ref b)]) _
    refine st703.trans ?_
    show GO p e below T703 (mkF m 288 (la6 p0 p1 p2 p3 p4 p5 (3 : Int32) (1 : Int32) r0 r1 r2 r3 b vv) [(.int (own_any [(nar .boolean r1), (nar .boolean r2)]))]) _
    refine XS.iload X703.here hx rfl (hb hby at_288) rfl ?_
    show GO p e below T703 (mkF m 290 (la6 p0 p1 p2 p3 p4 p5 (3 : Int32) (1 : Int32) r0 r1 r2 r3 b vv) [(.int vv), (.int (own_any [(nar .boolean r1), (nar .boolean r2)]))]) _
    refine XS.icmpNo X703.here hx rfl (hb hby at_290) rfl (teq ((by simp only [hvv, hb0, hb1, hb2, hb3]) : (own_any [(nar .boolean r1), (nar .boolean r2)]) = vv)).2 ?_
    show GO p e below T703 (mkF m 293 (la6 p0 p1 p2 p3 p4 p5 (3 : Int32) (1 : Int32) r0 r1 r2 r3 b vv) []) _
    refine XS.iconst X703.here hx rfl (hb hby at_293) ?_
    show GO p e below T703 (mkF m 294 (la6 p0 p1 p2 p3 p4 p5 (3 : Int32) (1 : Int32) r0 r1 r2 r3 b vv) [(.int 1)]) _
    refine XS.goto X703.here hx rfl (pc0 := 294) (pc' := 298) rfl (hb hby at_294) (by decide) (by decide) ?_
    exact kt
  exact ⟨vv, T703, h0, _, X703.mono (by decide) (by decide), e703, N703, fun t kt => pre704 t kt⟩
set_option maxRecDepth 65536 in
set_option maxHeartbeats 40000000 in
theorem tail_3_2 {p : Program} {l : Launch} {e : Env} {s : State} {m : MethodId} {args : Array Value} {below : List Frame} {meth : Method} {c : Code} {T0 : State} {locs : List Loc} {Z : State} {a0 : Array Value} (p0 : Int32) (p1 : Int32) (p2 : Int32) (p3 : Int32) (p4 : Int32) (p5 : Int32) (r0 : Int32) (r1 : Int32) (r2 : Int32) (r3 : Int32) (b : Addr) (t3 : Addr) (k3 : ClassId) {h0 : Heap} {n0 : Nat}
    (X0 : Stand p l e room_1 s m args below meth c T0 locs 5 39) (hx : p.tables.exec = Jvm.exec) (hZ : Z.Warmed39 s.vm) (hw : ∀ d ∈ tables_1, d.before a0 Z = true) (hby : c.code = code) (hml : c.maxLocals = 14) (hown : s.vm.findClass "com/example/occupancy/occupancy/loading/BlockHoldsRearPinLaw" = some m.cls) (e0 : T0.heap = h0) (N0 : Fr n0 locs) (Z0 : n0 ≤ h0.size) (E1 : Exa Z h0 b kS0) (Fh : Fld Z h0 b kS0 "head" "I" (.int 2)) (Fs : Fld Z h0 b kS0 "size" "I" (.int 1)) (F3 : Fld Z h0 b kS0 "rears" "[Z" (.ref t3)) (V3 : Arv Z h0 t3 k3 .boolean (8 : Int32) [(.int (nar .boolean r0)), (.int (nar .boolean r1)), (.int (nar .boolean r2)), (.int 0), (.int 0), (.int 0), (.int 0), (.int 0)] (.int 0)) (hb0 : nar .boolean r0 = r0) (hb1 : nar .boolean r1 = r1) (hb2 : nar .boolean r2 = r2) (hb3 : nar .boolean r3 = r3) :
    ∃ vv : Int32, ∃ (T' : State) (h' : Heap) (locs' : List Loc), Stand p l e room_1 s m args below meth c T' locs' 5 39 ∧ T'.heap = h' ∧ Fr n0 locs' ∧
      ∀ target, Steps p.tables e below (T'.setTop (mkF m 298 (la6 p0 p1 p2 p3 p4 p5 (3 : Int32) (2 : Int32) r0 r1 r2 r3 b vv) [(.int 1)])) target → Steps p.tables e below (T0.setTop (mkF m 210 (la5 p0 p1 p2 p3 p4 p5 (3 : Int32) (2 : Int32) r0 r1 r2 r3 b) [])) target := by
  have pre0 : ∀ t, Steps p.tables e below (T0.setTop (mkF m 210 (la5 p0 p1 p2 p3 p4 p5 (3 : Int32) (2 : Int32) r0 r1 r2 r3 b) [])) t → Steps p.tables e below (T0.setTop (mkF m 210 (la5 p0 p1 p2 p3 p4 p5 (3 : Int32) (2 : Int32) r0 r1 r2 r3 b) [])) t := fun _ k => k
  have lt_E1 := ltA E1.lt
  have lt_Fh := ltA Fh.lt
  have lt_Fs := ltA Fs.lt
  have lt_F3 := ltA F3.lt
  have lt_V3 := ltA V3.lt
  obtain ⟨vv, hvv, pre705⟩ : ∃ vv : Int32, (vv = own_any [r2]) ∧ ∀ t, Steps p.tables e below (T0.setTop (mkF m 281 (la5 p0 p1 p2 p3 p4 p5 (3 : Int32) (2 : Int32) r0 r1 r2 r3 b) [(.int vv)])) t → Steps p.tables e below (T0.setTop (mkF m 210 (la5 p0 p1 p2 p3 p4 p5 (3 : Int32) (2 : Int32) r0 r1 r2 r3 b) [])) t := by
    have pre706 : ∀ t, Steps p.tables e below (T0.setTop (mkF m 256 (la5 p0 p1 p2 p3 p4 p5 (3 : Int32) (2 : Int32) r0 r1 r2 r3 b) [(.int r2)])) t → Steps p.tables e below (T0.setTop (mkF m 210 (la5 p0 p1 p2 p3 p4 p5 (3 : Int32) (2 : Int32) r0 r1 r2 r3 b) [])) t := by
      intro t kt
      refine pre0 t ?_
      show GO p e below T0 (mkF m 210 (la5 p0 p1 p2 p3 p4 p5 (3 : Int32) (2 : Int32) r0 r1 r2 r3 b) []) _
      refine XS.iload X0.here hx rfl (hb hby at_210) rfl ?_
      show GO p e below T0 (mkF m 212 (la5 p0 p1 p2 p3 p4 p5 (3 : Int32) (2 : Int32) r0 r1 r2 r3 b) [(.int 3)]) _
      refine XS.ifNo X0.here hx rfl (hb hby at_212) rfl ((if0 _ _).trans (tlt ((by decide) : (0 : Int32) < (3 : Int32))).2.2.2) ?_
      show GO p e below T0 (mkF m 215 (la5 p0 p1 p2 p3 p4 p5 (3 : Int32) (2 : Int32) r0 r1 r2 r3 b) []) _
      refine XS.iload X0.here hx rfl (hb hby at_215) rfl ?_
      show GO p e below T0 (mkF m 217 (la5 p0 p1 p2 p3 p4 p5 (3 : Int32) (2 : Int32) r0 r1 r2 r3 b) [(.int 2)]) _
      refine XS.ifYes X0.here hx rfl (pc0 := 217) (pc' := 225) rfl (hb hby at_217) rfl ((if0 _ _).trans (tlt ((by decide) : (0 : Int32) < (2 : Int32))).2.2.1) (by decide) (by decide) ?_
      show GO p e below T0 (mkF m 225 (la5 p0 p1 p2 p3 p4 p5 (3 : Int32) (2 : Int32) r0 r1 r2 r3 b) []) _
      refine XS.iload X0.here hx rfl (hb hby at_225) rfl ?_
      show GO p e below T0 (mkF m 227 (la5 p0 p1 p2 p3 p4 p5 (3 : Int32) (2 : Int32) r0 r1 r2 r3 b) [(.int 3)]) _
      refine XS.iconst X0.here hx rfl (hb hby at_227) ?_
      show GO p e below T0 (mkF m 228 (la5 p0 p1 p2 p3 p4 p5 (3 : Int32) (2 : Int32) r0 r1 r2 r3 b) [(.int 1), (.int 3)]) _
      refine XS.icmpNo X0.here hx rfl (hb hby at_228) rfl (tlt ((by decide) : (1 : Int32) < (3 : Int32))).2.2.2 ?_
      show GO p e below T0 (mkF m 231 (la5 p0 p1 p2 p3 p4 p5 (3 : Int32) (2 : Int32) r0 r1 r2 r3 b) []) _
      refine XS.iload X0.here hx rfl (hb hby at_231) rfl ?_
      show GO p e below T0 (mkF m 233 (la5 p0 p1 p2 p3 p4 p5 (3 : Int32) (2 : Int32) r0 r1 r2 r3 b) [(.int 2)]) _
      refine XS.iconst X0.here hx rfl (hb hby at_233) ?_
      show GO p e below T0 (mkF m 234 (la5 p0 p1 p2 p3 p4 p5 (3 : Int32) (2 : Int32) r0 r1 r2 r3 b) [(.int 1), (.int 2)]) _
      refine XS.icmpYes X0.here hx rfl (pc0 := 234) (pc' := 242) rfl (hb hby at_234) rfl (tlt ((by decide) : (1 : Int32) < (2 : Int32))).2.2.1 (by decide) (by decide) ?_
      show GO p e below T0 (mkF m 242 (la5 p0 p1 p2 p3 p4 p5 (3 : Int32) (2 : Int32) r0 r1 r2 r3 b) []) _
      refine XS.iload X0.here hx rfl (hb hby at_242) rfl ?_
      show GO p e below T0 (mkF m 244 (la5 p0 p1 p2 p3 p4 p5 (3 : Int32) (2 : Int32) r0 r1 r2 r3 b) [(.int 3)]) _
      refine XS.iconst X0.here hx rfl (hb hby at_244) ?_
      show GO p e below T0 (mkF m 245 (la5 p0 p1 p2 p3 p4 p5 (3 : Int32) (2 : Int32) r0 r1 r2 r3 b) [(.int 2), (.int 3)]) _
      refine XS.icmpNo X0.here hx rfl (hb hby at_245) rfl (tlt ((by decide) : (2 : Int32) < (3 : Int32))).2.2.2 ?_
      show GO p e below T0 (mkF m 248 (la5 p0 p1 p2 p3 p4 p5 (3 : Int32) (2 : Int32) r0 r1 r2 r3 b) []) _
      refine XS.iload X0.here hx rfl (hb hby at_248) rfl ?_
      show GO p e below T0 (mkF m 250 (la5 p0 p1 p2 p3 p4 p5 (3 : Int32) (2 : Int32) r0 r1 r2 r3 b) [(.int 2)]) _
      refine XS.iconst X0.here hx rfl (hb hby at_250) ?_
      show GO p e below T0 (mkF m 251 (la5 p0 p1 p2 p3 p4 p5 (3 : Int32) (2 : Int32) r0 r1 r2 r3 b) [(.int 2), (.int 2)]) _
      refine XS.icmpNo X0.here hx rfl (hb hby at_251) rfl (flt ((by decide) : ¬ ((2 : Int32) < (2 : Int32)))).2.2.1 ?_
      show GO p e below T0 (mkF m 254 (la5 p0 p1 p2 p3 p4 p5 (3 : Int32) (2 : Int32) r0 r1 r2 r3 b) []) _
      refine XS.iload X0.here hx rfl (hb hby at_254) rfl ?_
      exact kt
    by_cases hb707 : r2 = (0 : Int32)
    · have pre708 : ∀ t, Steps p.tables e below (T0.setTop (mkF m 281 (la5 p0 p1 p2 p3 p4 p5 (3 : Int32) (2 : Int32) r0 r1 r2 r3 b) [(.int 0)])) t → Steps p.tables e below (T0.setTop (mkF m 210 (la5 p0 p1 p2 p3 p4 p5 (3 : Int32) (2 : Int32) r0 r1 r2 r3 b) [])) t := by
        intro t kt
        refine pre706 t ?_
        show GO p e below T0 (mkF m 256 (la5 p0 p1 p2 p3 p4 p5 (3 : Int32) (2 : Int32) r0 r1 r2 r3 b) [(.int r2)]) _
        refine XS.ifNo X0.here hx rfl (hb hby at_256) rfl ((if0 _ _).trans (teq (hb707 : r2 = (0 : Int32))).2) ?_
        show GO p e below T0 (mkF m 259 (la5 p0 p1 p2 p3 p4 p5 (3 : Int32) (2 : Int32) r0 r1 r2 r3 b) []) _
        refine XS.iload X0.here hx rfl (hb hby at_259) rfl ?_
        show GO p e below T0 (mkF m 261 (la5 p0 p1 p2 p3 p4 p5 (3 : Int32) (2 : Int32) r0 r1 r2 r3 b) [(.int 3)]) _
        refine XS.iconst X0.here hx rfl (hb hby at_261) ?_
        show GO p e below T0 (mkF m 262 (la5 p0 p1 p2 p3 p4 p5 (3 : Int32) (2 : Int32) r0 r1 r2 r3 b) [(.int 3), (.int 3)]) _
        refine XS.icmpYes X0.here hx rfl (pc0 := 262) (pc' := 280) rfl (hb hby at_262) rfl (flt ((by decide) : ¬ ((3 : Int32) < (3 : Int32)))).2.2.2 (by decide) (by decide) ?_
        show GO p e below T0 (mkF m 280 (la5 p0 p1 p2 p3 p4 p5 (3 : Int32) (2 : Int32) r0 r1 r2 r3 b) []) _
        refine XS.iconst X0.here hx rfl (hb hby at_280) ?_
        exact kt
      exact ⟨(0 : Int32), (by simp [own_any, hb707]), fun t kt => pre708 t kt⟩
    · have pre709 : ∀ t, Steps p.tables e below (T0.setTop (mkF m 281 (la5 p0 p1 p2 p3 p4 p5 (3 : Int32) (2 : Int32) r0 r1 r2 r3 b) [(.int 1)])) t → Steps p.tables e below (T0.setTop (mkF m 210 (la5 p0 p1 p2 p3 p4 p5 (3 : Int32) (2 : Int32) r0 r1 r2 r3 b) [])) t := by
        intro t kt
        refine pre706 t ?_
        show GO p e below T0 (mkF m 256 (la5 p0 p1 p2 p3 p4 p5 (3 : Int32) (2 : Int32) r0 r1 r2 r3 b) [(.int r2)]) _
        refine XS.ifYes X0.here hx rfl (pc0 := 256) (pc' := 276) rfl (hb hby at_256) rfl ((if0 _ _).trans (feq (hb707 : ¬ (r2 = (0 : Int32)))).2) (by decide) (by decide) ?_
        show GO p e below T0 (mkF m 276 (la5 p0 p1 p2 p3 p4 p5 (3 : Int32) (2 : Int32) r0 r1 r2 r3 b) []) _
        refine XS.iconst X0.here hx rfl (hb hby at_276) ?_
        show GO p e below T0 (mkF m 277 (la5 p0 p1 p2 p3 p4 p5 (3 : Int32) (2 : Int32) r0 r1 r2 r3 b) [(.int 1)]) _
        refine XS.goto X0.here hx rfl (pc0 := 277) (pc' := 281) rfl (hb hby at_277) (by decide) (by decide) ?_
        exact kt
      exact ⟨(1 : Int32), (by simp [own_any, hb707]), fun t kt => pre709 t kt⟩
  -- pc 285: Block.holdsRear by rm_hold2_1
  obtain ⟨cq710, kq710, q710a, q710b, q710c⟩ := isOf hZ e0 E1
  obtain ⟨_, _, ⟨T710, L710, k710, n710⟩, -, X710, ⟨Lc710, hQ710, l710, y710, z710⟩, st710⟩ := X0.virtualBack hx (y := (⟨kS0, "holdsRear", "()Z"⟩ : MethodName)) (z := (⟨kS0, "holdsRear", "()Z"⟩ : MethodName)) hown (mvT hZ (wd hw 25 rfl)) (mvT hZ (wd hw 26 rfl)) (notFace_of_selects (args := #[]) (mvT hZ (wd hw 28 rfl))) (mvT hZ (wd hw 28 rfl)) (mvT hZ (wd hw 27 rfl)) (by decide) (backOf (W := 0) (rm_hold2_1 l Z a0 hw [] b t3 k3 ([(.int (nar .boolean r0)), (.int (nar .boolean r1)), (.int (nar .boolean r2)), (.int 0), (.int 0), (.int 0), (.int 0), (.int 0)]) (nar .boolean r2) h0 n0 (by omega) Fh Fs F3 V3 rfl) hZ (wd hw 29 rfl) (wd hw 7 rfl) (by decide) (by decide)) q710a q710c (g := (mkF m 285 (la6 p0 p1 p2 p3 p4 p5 (3 : Int32) (2 : Int32) r0 r1 r2 r3 b vv) [(.ref b)])) rfl (by rw [hml]; rfl) (Steps.refl _) (argsL := []) (rest := []) (lenOf pd_0 rfl) rfl (by show 2 * 0 + _ ≤ _; exact Nat.le_of_eq rfl) (hb hby at_285) (fun _ _ => ⟨rfl, e0, (by decide : 5 + 0 ≤ _), (by decide : 39 + 0 ≤ _)⟩)
  dsimp only [Pt.U, Pt.locs, Pt.cells, Pt.slots] at X710 l710 y710 z710 st710 hQ710
  subst l710 y710 z710
  obtain ⟨rfl, N710q, e710⟩ := hQ710
  have N710 := Fr.app N0 N710q
  have pre711 : ∀ t, Steps p.tables e below (T710.setTop (mkF m 298 (la6 p0 p1 p2 p3 p4 p5 (3 : Int32) (2 : Int32) r0 r1 r2 r3 b vv) [(.int 1)])) t → Steps p.tables e below (T0.setTop (mkF m 210 (la5 p0 p1 p2 p3 p4 p5 (3 : Int32) (2 : Int32) r0 r1 r2 r3 b) [])) t := by
    intro t kt
    refine pre705 t ?_
    show GO p e below T0 (mkF m 281 (la5 p0 p1 p2 p3 p4 p5 (3 : Int32) (2 : Int32) r0 r1 r2 r3 b) [(.int vv)]) _
    refine XS.istore X0.here hx rfl (hb hby at_281) rfl (l' := (la6 p0 p1 p2 p3 p4 p5 (3 : Int32) (2 : Int32) r0 r1 r2 r3 b vv)) rfl ?_
    show GO p e below T0 (mkF m 283 (la6 p0 p1 p2 p3 p4 p5 (3 : Int32) (2 : Int32) r0 r1 r2 r3 b vv) []) _
    refine XS.aload X0.here hx rfl (hb hby at_283) rfl rfl ?_
    show GO p e below T0 (mkF m 285 (la6 p0 p1 p2 p3 p4 p5 (3 : Int32) (2 : Int32) r0 r1 r2 r3 b vv) [(.ref b)]) _
    refine st710.trans ?_
    show GO p e below T710 (mkF m 288 (la6 p0 p1 p2 p3 p4 p5 (3 : Int32) (2 : Int32) r0 r1 r2 r3 b vv) [(.int (own_any [(nar .boolean r2)]))]) _
    refine XS.iload X710.here hx rfl (hb hby at_288) rfl ?_
    show GO p e below T710 (mkF m 290 (la6 p0 p1 p2 p3 p4 p5 (3 : Int32) (2 : Int32) r0 r1 r2 r3 b vv) [(.int vv), (.int (own_any [(nar .boolean r2)]))]) _
    refine XS.icmpNo X710.here hx rfl (hb hby at_290) rfl (teq ((by simp only [hvv, hb0, hb1, hb2, hb3]) : (own_any [(nar .boolean r2)]) = vv)).2 ?_
    show GO p e below T710 (mkF m 293 (la6 p0 p1 p2 p3 p4 p5 (3 : Int32) (2 : Int32) r0 r1 r2 r3 b vv) []) _
    refine XS.iconst X710.here hx rfl (hb hby at_293) ?_
    show GO p e below T710 (mkF m 294 (la6 p0 p1 p2 p3 p4 p5 (3 : Int32) (2 : Int32) r0 r1 r2 r3 b vv) [(.int 1)]) _
    refine XS.goto X710.here hx rfl (pc0 := 294) (pc' := 298) rfl (hb hby at_294) (by decide) (by decide) ?_
    exact kt
  exact ⟨vv, T710, h0, _, X710.mono (by decide) (by decide), e710, N710, fun t kt => pre711 t kt⟩
set_option maxRecDepth 65536 in
set_option maxHeartbeats 40000000 in
theorem tail_3_3 {p : Program} {l : Launch} {e : Env} {s : State} {m : MethodId} {args : Array Value} {below : List Frame} {meth : Method} {c : Code} {T0 : State} {locs : List Loc} {Z : State} {a0 : Array Value} (p0 : Int32) (p1 : Int32) (p2 : Int32) (p3 : Int32) (p4 : Int32) (p5 : Int32) (r0 : Int32) (r1 : Int32) (r2 : Int32) (r3 : Int32) (b : Addr) (t3 : Addr) (k3 : ClassId) {h0 : Heap} {n0 : Nat}
    (X0 : Stand p l e room_1 s m args below meth c T0 locs 5 39) (hx : p.tables.exec = Jvm.exec) (hZ : Z.Warmed39 s.vm) (hw : ∀ d ∈ tables_1, d.before a0 Z = true) (hby : c.code = code) (hml : c.maxLocals = 14) (hown : s.vm.findClass "com/example/occupancy/occupancy/loading/BlockHoldsRearPinLaw" = some m.cls) (e0 : T0.heap = h0) (N0 : Fr n0 locs) (Z0 : n0 ≤ h0.size) (E1 : Exa Z h0 b kS0) (Fh : Fld Z h0 b kS0 "head" "I" (.int 3)) (Fs : Fld Z h0 b kS0 "size" "I" (.int 0)) (F3 : Fld Z h0 b kS0 "rears" "[Z" (.ref t3)) (V3 : Arv Z h0 t3 k3 .boolean (8 : Int32) [(.int (nar .boolean r0)), (.int (nar .boolean r1)), (.int (nar .boolean r2)), (.int 0), (.int 0), (.int 0), (.int 0), (.int 0)] (.int 0)) (hb0 : nar .boolean r0 = r0) (hb1 : nar .boolean r1 = r1) (hb2 : nar .boolean r2 = r2) (hb3 : nar .boolean r3 = r3) :
    ∃ vv : Int32, ∃ (T' : State) (h' : Heap) (locs' : List Loc), Stand p l e room_1 s m args below meth c T' locs' 5 39 ∧ T'.heap = h' ∧ Fr n0 locs' ∧
      ∀ target, Steps p.tables e below (T'.setTop (mkF m 298 (la6 p0 p1 p2 p3 p4 p5 (3 : Int32) (3 : Int32) r0 r1 r2 r3 b vv) [(.int 1)])) target → Steps p.tables e below (T0.setTop (mkF m 210 (la5 p0 p1 p2 p3 p4 p5 (3 : Int32) (3 : Int32) r0 r1 r2 r3 b) [])) target := by
  have pre0 : ∀ t, Steps p.tables e below (T0.setTop (mkF m 210 (la5 p0 p1 p2 p3 p4 p5 (3 : Int32) (3 : Int32) r0 r1 r2 r3 b) [])) t → Steps p.tables e below (T0.setTop (mkF m 210 (la5 p0 p1 p2 p3 p4 p5 (3 : Int32) (3 : Int32) r0 r1 r2 r3 b) [])) t := fun _ k => k
  have lt_E1 := ltA E1.lt
  have lt_Fh := ltA Fh.lt
  have lt_Fs := ltA Fs.lt
  have lt_F3 := ltA F3.lt
  have lt_V3 := ltA V3.lt
  obtain ⟨vv, hvv, pre712⟩ : ∃ vv : Int32, (vv = own_any []) ∧ ∀ t, Steps p.tables e below (T0.setTop (mkF m 281 (la5 p0 p1 p2 p3 p4 p5 (3 : Int32) (3 : Int32) r0 r1 r2 r3 b) [(.int vv)])) t → Steps p.tables e below (T0.setTop (mkF m 210 (la5 p0 p1 p2 p3 p4 p5 (3 : Int32) (3 : Int32) r0 r1 r2 r3 b) [])) t := by
    have pre713 : ∀ t, Steps p.tables e below (T0.setTop (mkF m 281 (la5 p0 p1 p2 p3 p4 p5 (3 : Int32) (3 : Int32) r0 r1 r2 r3 b) [(.int 0)])) t → Steps p.tables e below (T0.setTop (mkF m 210 (la5 p0 p1 p2 p3 p4 p5 (3 : Int32) (3 : Int32) r0 r1 r2 r3 b) [])) t := by
      intro t kt
      refine pre0 t ?_
      show GO p e below T0 (mkF m 210 (la5 p0 p1 p2 p3 p4 p5 (3 : Int32) (3 : Int32) r0 r1 r2 r3 b) []) _
      refine XS.iload X0.here hx rfl (hb hby at_210) rfl ?_
      show GO p e below T0 (mkF m 212 (la5 p0 p1 p2 p3 p4 p5 (3 : Int32) (3 : Int32) r0 r1 r2 r3 b) [(.int 3)]) _
      refine XS.ifNo X0.here hx rfl (hb hby at_212) rfl ((if0 _ _).trans (tlt ((by decide) : (0 : Int32) < (3 : Int32))).2.2.2) ?_
      show GO p e below T0 (mkF m 215 (la5 p0 p1 p2 p3 p4 p5 (3 : Int32) (3 : Int32) r0 r1 r2 r3 b) []) _
      refine XS.iload X0.here hx rfl (hb hby at_215) rfl ?_
      show GO p e below T0 (mkF m 217 (la5 p0 p1 p2 p3 p4 p5 (3 : Int32) (3 : Int32) r0 r1 r2 r3 b) [(.int 3)]) _
      refine XS.ifYes X0.here hx rfl (pc0 := 217) (pc' := 225) rfl (hb hby at_217) rfl ((if0 _ _).trans (tlt ((by decide) : (0 : Int32) < (3 : Int32))).2.2.1) (by decide) (by decide) ?_
      show GO p e below T0 (mkF m 225 (la5 p0 p1 p2 p3 p4 p5 (3 : Int32) (3 : Int32) r0 r1 r2 r3 b) []) _
      refine XS.iload X0.here hx rfl (hb hby at_225) rfl ?_
      show GO p e below T0 (mkF m 227 (la5 p0 p1 p2 p3 p4 p5 (3 : Int32) (3 : Int32) r0 r1 r2 r3 b) [(.int 3)]) _
      refine XS.iconst X0.here hx rfl (hb hby at_227) ?_
      show GO p e below T0 (mkF m 228 (la5 p0 p1 p2 p3 p4 p5 (3 : Int32) (3 : Int32) r0 r1 r2 r3 b) [(.int 1), (.int 3)]) _
      refine XS.icmpNo X0.here hx rfl (hb hby at_228) rfl (tlt ((by decide) : (1 : Int32) < (3 : Int32))).2.2.2 ?_
      show GO p e below T0 (mkF m 231 (la5 p0 p1 p2 p3 p4 p5 (3 : Int32) (3 : Int32) r0 r1 r2 r3 b) []) _
      refine XS.iload X0.here hx rfl (hb hby at_231) rfl ?_
      show GO p e below T0 (mkF m 233 (la5 p0 p1 p2 p3 p4 p5 (3 : Int32) (3 : Int32) r0 r1 r2 r3 b) [(.int 3)]) _
      refine XS.iconst X0.here hx rfl (hb hby at_233) ?_
      show GO p e below T0 (mkF m 234 (la5 p0 p1 p2 p3 p4 p5 (3 : Int32) (3 : Int32) r0 r1 r2 r3 b) [(.int 1), (.int 3)]) _
      refine XS.icmpYes X0.here hx rfl (pc0 := 234) (pc' := 242) rfl (hb hby at_234) rfl (tlt ((by decide) : (1 : Int32) < (3 : Int32))).2.2.1 (by decide) (by decide) ?_
      show GO p e below T0 (mkF m 242 (la5 p0 p1 p2 p3 p4 p5 (3 : Int32) (3 : Int32) r0 r1 r2 r3 b) []) _
      refine XS.iload X0.here hx rfl (hb hby at_242) rfl ?_
      show GO p e below T0 (mkF m 244 (la5 p0 p1 p2 p3 p4 p5 (3 : Int32) (3 : Int32) r0 r1 r2 r3 b) [(.int 3)]) _
      refine XS.iconst X0.here hx rfl (hb hby at_244) ?_
      show GO p e below T0 (mkF m 245 (la5 p0 p1 p2 p3 p4 p5 (3 : Int32) (3 : Int32) r0 r1 r2 r3 b) [(.int 2), (.int 3)]) _
      refine XS.icmpNo X0.here hx rfl (hb hby at_245) rfl (tlt ((by decide) : (2 : Int32) < (3 : Int32))).2.2.2 ?_
      show GO p e below T0 (mkF m 248 (la5 p0 p1 p2 p3 p4 p5 (3 : Int32) (3 : Int32) r0 r1 r2 r3 b) []) _
      refine XS.iload X0.here hx rfl (hb hby at_248) rfl ?_
      show GO p e below T0 (mkF m 250 (la5 p0 p1 p2 p3 p4 p5 (3 : Int32) (3 : Int32) r0 r1 r2 r3 b) [(.int 3)]) _
      refine XS.iconst X0.here hx rfl (hb hby at_250) ?_
      show GO p e below T0 (mkF m 251 (la5 p0 p1 p2 p3 p4 p5 (3 : Int32) (3 : Int32) r0 r1 r2 r3 b) [(.int 2), (.int 3)]) _
      refine XS.icmpYes X0.here hx rfl (pc0 := 251) (pc' := 259) rfl (hb hby at_251) rfl (tlt ((by decide) : (2 : Int32) < (3 : Int32))).2.2.1 (by decide) (by decide) ?_
      show GO p e below T0 (mkF m 259 (la5 p0 p1 p2 p3 p4 p5 (3 : Int32) (3 : Int32) r0 r1 r2 r3 b) []) _
      refine XS.iload X0.here hx rfl (hb hby at_259) rfl ?_
      show GO p e below T0 (mkF m 261 (la5 p0 p1 p2 p3 p4 p5 (3 : Int32) (3 : Int32) r0 r1 r2 r3 b) [(.int 3)]) _
      refine XS.iconst X0.here hx rfl (hb hby at_261) ?_
      show GO p e below T0 (mkF m 262 (la5 p0 p1 p2 p3 p4 p5 (3 : Int32) (3 : Int32) r0 r1 r2 r3 b) [(.int 3), (.int 3)]) _
      refine XS.icmpYes X0.here hx rfl (pc0 := 262) (pc' := 280) rfl (hb hby at_262) rfl (flt ((by decide) : ¬ ((3 : Int32) < (3 : Int32)))).2.2.2 (by decide) (by decide) ?_
      show GO p e below T0 (mkF m 280 (la5 p0 p1 p2 p3 p4 p5 (3 : Int32) (3 : Int32) r0 r1 r2 r3 b) []) _
      refine XS.iconst X0.here hx rfl (hb hby at_280) ?_
      exact kt
    exact ⟨(0 : Int32), (by simp [own_any]), fun t kt => pre713 t kt⟩
  -- pc 285: Block.holdsRear by rm_hold3_0
  obtain ⟨cq714, kq714, q714a, q714b, q714c⟩ := isOf hZ e0 E1
  obtain ⟨_, _, ⟨T714, L714, k714, n714⟩, -, X714, ⟨Lc714, hQ714, l714, y714, z714⟩, st714⟩ := X0.virtualBack hx (y := (⟨kS0, "holdsRear", "()Z"⟩ : MethodName)) (z := (⟨kS0, "holdsRear", "()Z"⟩ : MethodName)) hown (mvT hZ (wd hw 25 rfl)) (mvT hZ (wd hw 26 rfl)) (notFace_of_selects (args := #[]) (mvT hZ (wd hw 28 rfl))) (mvT hZ (wd hw 28 rfl)) (mvT hZ (wd hw 27 rfl)) (by decide) (backOf (W := 0) (rm_hold3_0 l Z a0 hw [] b t3 k3 ([(.int (nar .boolean r0)), (.int (nar .boolean r1)), (.int (nar .boolean r2)), (.int 0), (.int 0), (.int 0), (.int 0), (.int 0)]) h0 n0 (by omega) Fh Fs F3 V3) hZ (wd hw 29 rfl) (wd hw 7 rfl) (by decide) (by decide)) q714a q714c (g := (mkF m 285 (la6 p0 p1 p2 p3 p4 p5 (3 : Int32) (3 : Int32) r0 r1 r2 r3 b vv) [(.ref b)])) rfl (by rw [hml]; rfl) (Steps.refl _) (argsL := []) (rest := []) (lenOf pd_0 rfl) rfl (by show 2 * 0 + _ ≤ _; exact Nat.le_of_eq rfl) (hb hby at_285) (fun _ _ => ⟨rfl, e0, (by decide : 5 + 0 ≤ _), (by decide : 39 + 0 ≤ _)⟩)
  dsimp only [Pt.U, Pt.locs, Pt.cells, Pt.slots] at X714 l714 y714 z714 st714 hQ714
  subst l714 y714 z714
  obtain ⟨rfl, N714q, e714⟩ := hQ714
  have N714 := Fr.app N0 N714q
  have pre715 : ∀ t, Steps p.tables e below (T714.setTop (mkF m 298 (la6 p0 p1 p2 p3 p4 p5 (3 : Int32) (3 : Int32) r0 r1 r2 r3 b vv) [(.int 1)])) t → Steps p.tables e below (T0.setTop (mkF m 210 (la5 p0 p1 p2 p3 p4 p5 (3 : Int32) (3 : Int32) r0 r1 r2 r3 b) [])) t := by
    intro t kt
    refine pre712 t ?_
    show GO p e below T0 (mkF m 281 (la5 p0 p1 p2 p3 p4 p5 (3 : Int32) (3 : Int32) r0 r1 r2 r3 b) [(.int vv)]) _
    refine XS.istore X0.here hx rfl (hb hby at_281) rfl (l' := (la6 p0 p1 p2 p3 p4 p5 (3 : Int32) (3 : Int32) r0 r1 r2 r3 b vv)) rfl ?_
    show GO p e below T0 (mkF m 283 (la6 p0 p1 p2 p3 p4 p5 (3 : Int32) (3 : Int32) r0 r1 r2 r3 b vv) []) _
    refine XS.aload X0.here hx rfl (hb hby at_283) rfl rfl ?_
    show GO p e below T0 (mkF m 285 (la6 p0 p1 p2 p3 p4 p5 (3 : Int32) (3 : Int32) r0 r1 r2 r3 b vv) [(.ref b)]) _
    refine st714.trans ?_
    show GO p e below T714 (mkF m 288 (la6 p0 p1 p2 p3 p4 p5 (3 : Int32) (3 : Int32) r0 r1 r2 r3 b vv) [(.int (own_any []))]) _
    refine XS.iload X714.here hx rfl (hb hby at_288) rfl ?_
    show GO p e below T714 (mkF m 290 (la6 p0 p1 p2 p3 p4 p5 (3 : Int32) (3 : Int32) r0 r1 r2 r3 b vv) [(.int vv), (.int (own_any []))]) _
    refine XS.icmpNo X714.here hx rfl (hb hby at_290) rfl (teq ((by simp only [hvv, hb0, hb1, hb2, hb3]) : (own_any []) = vv)).2 ?_
    show GO p e below T714 (mkF m 293 (la6 p0 p1 p2 p3 p4 p5 (3 : Int32) (3 : Int32) r0 r1 r2 r3 b vv) []) _
    refine XS.iconst X714.here hx rfl (hb hby at_293) ?_
    show GO p e below T714 (mkF m 294 (la6 p0 p1 p2 p3 p4 p5 (3 : Int32) (3 : Int32) r0 r1 r2 r3 b vv) [(.int 1)]) _
    refine XS.goto X714.here hx rfl (pc0 := 294) (pc' := 298) rfl (hb hby at_294) (by decide) (by decide) ?_
    exact kt
  exact ⟨vv, T714, h0, _, X714.mono (by decide) (by decide), e714, N714, fun t kt => pre715 t kt⟩
set_option maxRecDepth 65536 in
set_option maxHeartbeats 40000000 in
theorem tail_4_0 {p : Program} {l : Launch} {e : Env} {s : State} {m : MethodId} {args : Array Value} {below : List Frame} {meth : Method} {c : Code} {T0 : State} {locs : List Loc} {Z : State} {a0 : Array Value} (p0 : Int32) (p1 : Int32) (p2 : Int32) (p3 : Int32) (p4 : Int32) (p5 : Int32) (r0 : Int32) (r1 : Int32) (r2 : Int32) (r3 : Int32) (b : Addr) (t3 : Addr) (k3 : ClassId) {h0 : Heap} {n0 : Nat}
    (X0 : Stand p l e room_1 s m args below meth c T0 locs 5 39) (hx : p.tables.exec = Jvm.exec) (hZ : Z.Warmed39 s.vm) (hw : ∀ d ∈ tables_1, d.before a0 Z = true) (hby : c.code = code) (hml : c.maxLocals = 14) (hown : s.vm.findClass "com/example/occupancy/occupancy/loading/BlockHoldsRearPinLaw" = some m.cls) (e0 : T0.heap = h0) (N0 : Fr n0 locs) (Z0 : n0 ≤ h0.size) (E1 : Exa Z h0 b kS0) (Fh : Fld Z h0 b kS0 "head" "I" (.int 0)) (Fs : Fld Z h0 b kS0 "size" "I" (.int 4)) (F3 : Fld Z h0 b kS0 "rears" "[Z" (.ref t3)) (V3 : Arv Z h0 t3 k3 .boolean (8 : Int32) [(.int (nar .boolean r0)), (.int (nar .boolean r1)), (.int (nar .boolean r2)), (.int (nar .boolean r3)), (.int 0), (.int 0), (.int 0), (.int 0)] (.int 0)) (hb0 : nar .boolean r0 = r0) (hb1 : nar .boolean r1 = r1) (hb2 : nar .boolean r2 = r2) (hb3 : nar .boolean r3 = r3) :
    ∃ vv : Int32, ∃ (T' : State) (h' : Heap) (locs' : List Loc), Stand p l e room_1 s m args below meth c T' locs' 5 39 ∧ T'.heap = h' ∧ Fr n0 locs' ∧
      ∀ target, Steps p.tables e below (T'.setTop (mkF m 298 (la6 p0 p1 p2 p3 p4 p5 (4 : Int32) (0 : Int32) r0 r1 r2 r3 b vv) [(.int 1)])) target → Steps p.tables e below (T0.setTop (mkF m 210 (la5 p0 p1 p2 p3 p4 p5 (4 : Int32) (0 : Int32) r0 r1 r2 r3 b) [])) target := by
  have pre0 : ∀ t, Steps p.tables e below (T0.setTop (mkF m 210 (la5 p0 p1 p2 p3 p4 p5 (4 : Int32) (0 : Int32) r0 r1 r2 r3 b) [])) t → Steps p.tables e below (T0.setTop (mkF m 210 (la5 p0 p1 p2 p3 p4 p5 (4 : Int32) (0 : Int32) r0 r1 r2 r3 b) [])) t := fun _ k => k
  have lt_E1 := ltA E1.lt
  have lt_Fh := ltA Fh.lt
  have lt_Fs := ltA Fs.lt
  have lt_F3 := ltA F3.lt
  have lt_V3 := ltA V3.lt
  obtain ⟨vv, hvv, pre716⟩ : ∃ vv : Int32, (vv = own_any [r0, r1, r2, r3]) ∧ ∀ t, Steps p.tables e below (T0.setTop (mkF m 281 (la5 p0 p1 p2 p3 p4 p5 (4 : Int32) (0 : Int32) r0 r1 r2 r3 b) [(.int vv)])) t → Steps p.tables e below (T0.setTop (mkF m 210 (la5 p0 p1 p2 p3 p4 p5 (4 : Int32) (0 : Int32) r0 r1 r2 r3 b) [])) t := by
    have pre717 : ∀ t, Steps p.tables e below (T0.setTop (mkF m 222 (la5 p0 p1 p2 p3 p4 p5 (4 : Int32) (0 : Int32) r0 r1 r2 r3 b) [(.int r0)])) t → Steps p.tables e below (T0.setTop (mkF m 210 (la5 p0 p1 p2 p3 p4 p5 (4 : Int32) (0 : Int32) r0 r1 r2 r3 b) [])) t := by
      intro t kt
      refine pre0 t ?_
      show GO p e below T0 (mkF m 210 (la5 p0 p1 p2 p3 p4 p5 (4 : Int32) (0 : Int32) r0 r1 r2 r3 b) []) _
      refine XS.iload X0.here hx rfl (hb hby at_210) rfl ?_
      show GO p e below T0 (mkF m 212 (la5 p0 p1 p2 p3 p4 p5 (4 : Int32) (0 : Int32) r0 r1 r2 r3 b) [(.int 4)]) _
      refine XS.ifNo X0.here hx rfl (hb hby at_212) rfl ((if0 _ _).trans (tlt ((by decide) : (0 : Int32) < (4 : Int32))).2.2.2) ?_
      show GO p e below T0 (mkF m 215 (la5 p0 p1 p2 p3 p4 p5 (4 : Int32) (0 : Int32) r0 r1 r2 r3 b) []) _
      refine XS.iload X0.here hx rfl (hb hby at_215) rfl ?_
      show GO p e below T0 (mkF m 217 (la5 p0 p1 p2 p3 p4 p5 (4 : Int32) (0 : Int32) r0 r1 r2 r3 b) [(.int 0)]) _
      refine XS.ifNo X0.here hx rfl (hb hby at_217) rfl ((if0 _ _).trans (flt ((by decide) : ¬ ((0 : Int32) < (0 : Int32)))).2.2.1) ?_
      show GO p e below T0 (mkF m 220 (la5 p0 p1 p2 p3 p4 p5 (4 : Int32) (0 : Int32) r0 r1 r2 r3 b) []) _
      refine XS.iload X0.here hx rfl (hb hby at_220) rfl ?_
      exact kt
    by_cases hb718 : r0 = (0 : Int32)
    · have pre719 : ∀ t, Steps p.tables e below (T0.setTop (mkF m 239 (la5 p0 p1 p2 p3 p4 p5 (4 : Int32) (0 : Int32) r0 r1 r2 r3 b) [(.int r1)])) t → Steps p.tables e below (T0.setTop (mkF m 210 (la5 p0 p1 p2 p3 p4 p5 (4 : Int32) (0 : Int32) r0 r1 r2 r3 b) [])) t := by
        intro t kt
        refine pre717 t ?_
        show GO p e below T0 (mkF m 222 (la5 p0 p1 p2 p3 p4 p5 (4 : Int32) (0 : Int32) r0 r1 r2 r3 b) [(.int r0)]) _
        refine XS.ifNo X0.here hx rfl (hb hby at_222) rfl ((if0 _ _).trans (teq (hb718 : r0 = (0 : Int32))).2) ?_
        show GO p e below T0 (mkF m 225 (la5 p0 p1 p2 p3 p4 p5 (4 : Int32) (0 : Int32) r0 r1 r2 r3 b) []) _
        refine XS.iload X0.here hx rfl (hb hby at_225) rfl ?_
        show GO p e below T0 (mkF m 227 (la5 p0 p1 p2 p3 p4 p5 (4 : Int32) (0 : Int32) r0 r1 r2 r3 b) [(.int 4)]) _
        refine XS.iconst X0.here hx rfl (hb hby at_227) ?_
        show GO p e below T0 (mkF m 228 (la5 p0 p1 p2 p3 p4 p5 (4 : Int32) (0 : Int32) r0 r1 r2 r3 b) [(.int 1), (.int 4)]) _
        refine XS.icmpNo X0.here hx rfl (hb hby at_228) rfl (tlt ((by decide) : (1 : Int32) < (4 : Int32))).2.2.2 ?_
        show GO p e below T0 (mkF m 231 (la5 p0 p1 p2 p3 p4 p5 (4 : Int32) (0 : Int32) r0 r1 r2 r3 b) []) _
        refine XS.iload X0.here hx rfl (hb hby at_231) rfl ?_
        show GO p e below T0 (mkF m 233 (la5 p0 p1 p2 p3 p4 p5 (4 : Int32) (0 : Int32) r0 r1 r2 r3 b) [(.int 0)]) _
        refine XS.iconst X0.here hx rfl (hb hby at_233) ?_
        show GO p e below T0 (mkF m 234 (la5 p0 p1 p2 p3 p4 p5 (4 : Int32) (0 : Int32) r0 r1 r2 r3 b) [(.int 1), (.int 0)]) _
        refine XS.icmpNo X0.here hx rfl (hb hby at_234) rfl (flt ((by decide) : ¬ ((1 : Int32) < (0 : Int32)))).2.2.1 ?_
        show GO p e below T0 (mkF m 237 (la5 p0 p1 p2 p3 p4 p5 (4 : Int32) (0 : Int32) r0 r1 r2 r3 b) []) _
        refine XS.iload X0.here hx rfl (hb hby at_237) rfl ?_
        exact kt
      by_cases hb720 : r1 = (0 : Int32)
      · have pre721 : ∀ t, Steps p.tables e below (T0.setTop (mkF m 256 (la5 p0 p1 p2 p3 p4 p5 (4 : Int32) (0 : Int32) r0 r1 r2 r3 b) [(.int r2)])) t → Steps p.tables e below (T0.setTop (mkF m 210 (la5 p0 p1 p2 p3 p4 p5 (4 : Int32) (0 : Int32) r0 r1 r2 r3 b) [])) t := by
          intro t kt
          refine pre719 t ?_
          show GO p e below T0 (mkF m 239 (la5 p0 p1 p2 p3 p4 p5 (4 : Int32) (0 : Int32) r0 r1 r2 r3 b) [(.int r1)]) _
          refine XS.ifNo X0.here hx rfl (hb hby at_239) rfl ((if0 _ _).trans (teq (hb720 : r1 = (0 : Int32))).2) ?_
          show GO p e below T0 (mkF m 242 (la5 p0 p1 p2 p3 p4 p5 (4 : Int32) (0 : Int32) r0 r1 r2 r3 b) []) _
          refine XS.iload X0.here hx rfl (hb hby at_242) rfl ?_
          show GO p e below T0 (mkF m 244 (la5 p0 p1 p2 p3 p4 p5 (4 : Int32) (0 : Int32) r0 r1 r2 r3 b) [(.int 4)]) _
          refine XS.iconst X0.here hx rfl (hb hby at_244) ?_
          show GO p e below T0 (mkF m 245 (la5 p0 p1 p2 p3 p4 p5 (4 : Int32) (0 : Int32) r0 r1 r2 r3 b) [(.int 2), (.int 4)]) _
          refine XS.icmpNo X0.here hx rfl (hb hby at_245) rfl (tlt ((by decide) : (2 : Int32) < (4 : Int32))).2.2.2 ?_
          show GO p e below T0 (mkF m 248 (la5 p0 p1 p2 p3 p4 p5 (4 : Int32) (0 : Int32) r0 r1 r2 r3 b) []) _
          refine XS.iload X0.here hx rfl (hb hby at_248) rfl ?_
          show GO p e below T0 (mkF m 250 (la5 p0 p1 p2 p3 p4 p5 (4 : Int32) (0 : Int32) r0 r1 r2 r3 b) [(.int 0)]) _
          refine XS.iconst X0.here hx rfl (hb hby at_250) ?_
          show GO p e below T0 (mkF m 251 (la5 p0 p1 p2 p3 p4 p5 (4 : Int32) (0 : Int32) r0 r1 r2 r3 b) [(.int 2), (.int 0)]) _
          refine XS.icmpNo X0.here hx rfl (hb hby at_251) rfl (flt ((by decide) : ¬ ((2 : Int32) < (0 : Int32)))).2.2.1 ?_
          show GO p e below T0 (mkF m 254 (la5 p0 p1 p2 p3 p4 p5 (4 : Int32) (0 : Int32) r0 r1 r2 r3 b) []) _
          refine XS.iload X0.here hx rfl (hb hby at_254) rfl ?_
          exact kt
        by_cases hb722 : r2 = (0 : Int32)
        · have pre723 : ∀ t, Steps p.tables e below (T0.setTop (mkF m 273 (la5 p0 p1 p2 p3 p4 p5 (4 : Int32) (0 : Int32) r0 r1 r2 r3 b) [(.int r3)])) t → Steps p.tables e below (T0.setTop (mkF m 210 (la5 p0 p1 p2 p3 p4 p5 (4 : Int32) (0 : Int32) r0 r1 r2 r3 b) [])) t := by
            intro t kt
            refine pre721 t ?_
            show GO p e below T0 (mkF m 256 (la5 p0 p1 p2 p3 p4 p5 (4 : Int32) (0 : Int32) r0 r1 r2 r3 b) [(.int r2)]) _
            refine XS.ifNo X0.here hx rfl (hb hby at_256) rfl ((if0 _ _).trans (teq (hb722 : r2 = (0 : Int32))).2) ?_
            show GO p e below T0 (mkF m 259 (la5 p0 p1 p2 p3 p4 p5 (4 : Int32) (0 : Int32) r0 r1 r2 r3 b) []) _
            refine XS.iload X0.here hx rfl (hb hby at_259) rfl ?_
            show GO p e below T0 (mkF m 261 (la5 p0 p1 p2 p3 p4 p5 (4 : Int32) (0 : Int32) r0 r1 r2 r3 b) [(.int 4)]) _
            refine XS.iconst X0.here hx rfl (hb hby at_261) ?_
            show GO p e below T0 (mkF m 262 (la5 p0 p1 p2 p3 p4 p5 (4 : Int32) (0 : Int32) r0 r1 r2 r3 b) [(.int 3), (.int 4)]) _
            refine XS.icmpNo X0.here hx rfl (hb hby at_262) rfl (tlt ((by decide) : (3 : Int32) < (4 : Int32))).2.2.2 ?_
            show GO p e below T0 (mkF m 265 (la5 p0 p1 p2 p3 p4 p5 (4 : Int32) (0 : Int32) r0 r1 r2 r3 b) []) _
            refine XS.iload X0.here hx rfl (hb hby at_265) rfl ?_
            show GO p e below T0 (mkF m 267 (la5 p0 p1 p2 p3 p4 p5 (4 : Int32) (0 : Int32) r0 r1 r2 r3 b) [(.int 0)]) _
            refine XS.iconst X0.here hx rfl (hb hby at_267) ?_
            show GO p e below T0 (mkF m 268 (la5 p0 p1 p2 p3 p4 p5 (4 : Int32) (0 : Int32) r0 r1 r2 r3 b) [(.int 3), (.int 0)]) _
            refine XS.icmpNo X0.here hx rfl (hb hby at_268) rfl (flt ((by decide) : ¬ ((3 : Int32) < (0 : Int32)))).2.2.1 ?_
            show GO p e below T0 (mkF m 271 (la5 p0 p1 p2 p3 p4 p5 (4 : Int32) (0 : Int32) r0 r1 r2 r3 b) []) _
            refine XS.iload X0.here hx rfl (hb hby at_271) rfl ?_
            exact kt
          by_cases hb724 : r3 = (0 : Int32)
          · have pre725 : ∀ t, Steps p.tables e below (T0.setTop (mkF m 281 (la5 p0 p1 p2 p3 p4 p5 (4 : Int32) (0 : Int32) r0 r1 r2 r3 b) [(.int 0)])) t → Steps p.tables e below (T0.setTop (mkF m 210 (la5 p0 p1 p2 p3 p4 p5 (4 : Int32) (0 : Int32) r0 r1 r2 r3 b) [])) t := by
              intro t kt
              refine pre723 t ?_
              show GO p e below T0 (mkF m 273 (la5 p0 p1 p2 p3 p4 p5 (4 : Int32) (0 : Int32) r0 r1 r2 r3 b) [(.int r3)]) _
              refine XS.ifYes X0.here hx rfl (pc0 := 273) (pc' := 280) rfl (hb hby at_273) rfl ((if0 _ _).trans (teq (hb724 : r3 = (0 : Int32))).1) (by decide) (by decide) ?_
              show GO p e below T0 (mkF m 280 (la5 p0 p1 p2 p3 p4 p5 (4 : Int32) (0 : Int32) r0 r1 r2 r3 b) []) _
              refine XS.iconst X0.here hx rfl (hb hby at_280) ?_
              exact kt
            exact ⟨(0 : Int32), (by simp [own_any, hb718, hb720, hb722, hb724]), fun t kt => pre725 t kt⟩
          · have pre726 : ∀ t, Steps p.tables e below (T0.setTop (mkF m 281 (la5 p0 p1 p2 p3 p4 p5 (4 : Int32) (0 : Int32) r0 r1 r2 r3 b) [(.int 1)])) t → Steps p.tables e below (T0.setTop (mkF m 210 (la5 p0 p1 p2 p3 p4 p5 (4 : Int32) (0 : Int32) r0 r1 r2 r3 b) [])) t := by
              intro t kt
              refine pre723 t ?_
              show GO p e below T0 (mkF m 273 (la5 p0 p1 p2 p3 p4 p5 (4 : Int32) (0 : Int32) r0 r1 r2 r3 b) [(.int r3)]) _
              refine XS.ifNo X0.here hx rfl (hb hby at_273) rfl ((if0 _ _).trans (feq (hb724 : ¬ (r3 = (0 : Int32)))).1) ?_
              show GO p e below T0 (mkF m 276 (la5 p0 p1 p2 p3 p4 p5 (4 : Int32) (0 : Int32) r0 r1 r2 r3 b) []) _
              refine XS.iconst X0.here hx rfl (hb hby at_276) ?_
              show GO p e below T0 (mkF m 277 (la5 p0 p1 p2 p3 p4 p5 (4 : Int32) (0 : Int32) r0 r1 r2 r3 b) [(.int 1)]) _
              refine XS.goto X0.here hx rfl (pc0 := 277) (pc' := 281) rfl (hb hby at_277) (by decide) (by decide) ?_
              exact kt
            exact ⟨(1 : Int32), (by simp [own_any, hb718, hb720, hb722, hb724]), fun t kt => pre726 t kt⟩
        · have pre727 : ∀ t, Steps p.tables e below (T0.setTop (mkF m 281 (la5 p0 p1 p2 p3 p4 p5 (4 : Int32) (0 : Int32) r0 r1 r2 r3 b) [(.int 1)])) t → Steps p.tables e below (T0.setTop (mkF m 210 (la5 p0 p1 p2 p3 p4 p5 (4 : Int32) (0 : Int32) r0 r1 r2 r3 b) [])) t := by
            intro t kt
            refine pre721 t ?_
            show GO p e below T0 (mkF m 256 (la5 p0 p1 p2 p3 p4 p5 (4 : Int32) (0 : Int32) r0 r1 r2 r3 b) [(.int r2)]) _
            refine XS.ifYes X0.here hx rfl (pc0 := 256) (pc' := 276) rfl (hb hby at_256) rfl ((if0 _ _).trans (feq (hb722 : ¬ (r2 = (0 : Int32)))).2) (by decide) (by decide) ?_
            show GO p e below T0 (mkF m 276 (la5 p0 p1 p2 p3 p4 p5 (4 : Int32) (0 : Int32) r0 r1 r2 r3 b) []) _
            refine XS.iconst X0.here hx rfl (hb hby at_276) ?_
            show GO p e below T0 (mkF m 277 (la5 p0 p1 p2 p3 p4 p5 (4 : Int32) (0 : Int32) r0 r1 r2 r3 b) [(.int 1)]) _
            refine XS.goto X0.here hx rfl (pc0 := 277) (pc' := 281) rfl (hb hby at_277) (by decide) (by decide) ?_
            exact kt
          exact ⟨(1 : Int32), (by simp [own_any, hb718, hb720, hb722]), fun t kt => pre727 t kt⟩
      · have pre728 : ∀ t, Steps p.tables e below (T0.setTop (mkF m 281 (la5 p0 p1 p2 p3 p4 p5 (4 : Int32) (0 : Int32) r0 r1 r2 r3 b) [(.int 1)])) t → Steps p.tables e below (T0.setTop (mkF m 210 (la5 p0 p1 p2 p3 p4 p5 (4 : Int32) (0 : Int32) r0 r1 r2 r3 b) [])) t := by
          intro t kt
          refine pre719 t ?_
          show GO p e below T0 (mkF m 239 (la5 p0 p1 p2 p3 p4 p5 (4 : Int32) (0 : Int32) r0 r1 r2 r3 b) [(.int r1)]) _
          refine XS.ifYes X0.here hx rfl (pc0 := 239) (pc' := 276) rfl (hb hby at_239) rfl ((if0 _ _).trans (feq (hb720 : ¬ (r1 = (0 : Int32)))).2) (by decide) (by decide) ?_
          show GO p e below T0 (mkF m 276 (la5 p0 p1 p2 p3 p4 p5 (4 : Int32) (0 : Int32) r0 r1 r2 r3 b) []) _
          refine XS.iconst X0.here hx rfl (hb hby at_276) ?_
          show GO p e below T0 (mkF m 277 (la5 p0 p1 p2 p3 p4 p5 (4 : Int32) (0 : Int32) r0 r1 r2 r3 b) [(.int 1)]) _
          refine XS.goto X0.here hx rfl (pc0 := 277) (pc' := 281) rfl (hb hby at_277) (by decide) (by decide) ?_
          exact kt
        exact ⟨(1 : Int32), (by simp [own_any, hb718, hb720]), fun t kt => pre728 t kt⟩
    · have pre729 : ∀ t, Steps p.tables e below (T0.setTop (mkF m 281 (la5 p0 p1 p2 p3 p4 p5 (4 : Int32) (0 : Int32) r0 r1 r2 r3 b) [(.int 1)])) t → Steps p.tables e below (T0.setTop (mkF m 210 (la5 p0 p1 p2 p3 p4 p5 (4 : Int32) (0 : Int32) r0 r1 r2 r3 b) [])) t := by
        intro t kt
        refine pre717 t ?_
        show GO p e below T0 (mkF m 222 (la5 p0 p1 p2 p3 p4 p5 (4 : Int32) (0 : Int32) r0 r1 r2 r3 b) [(.int r0)]) _
        refine XS.ifYes X0.here hx rfl (pc0 := 222) (pc' := 276) rfl (hb hby at_222) rfl ((if0 _ _).trans (feq (hb718 : ¬ (r0 = (0 : Int32)))).2) (by decide) (by decide) ?_
        show GO p e below T0 (mkF m 276 (la5 p0 p1 p2 p3 p4 p5 (4 : Int32) (0 : Int32) r0 r1 r2 r3 b) []) _
        refine XS.iconst X0.here hx rfl (hb hby at_276) ?_
        show GO p e below T0 (mkF m 277 (la5 p0 p1 p2 p3 p4 p5 (4 : Int32) (0 : Int32) r0 r1 r2 r3 b) [(.int 1)]) _
        refine XS.goto X0.here hx rfl (pc0 := 277) (pc' := 281) rfl (hb hby at_277) (by decide) (by decide) ?_
        exact kt
      exact ⟨(1 : Int32), (by simp [own_any, hb718]), fun t kt => pre729 t kt⟩
  -- pc 285: Block.holdsRear by rm_hold0_4
  obtain ⟨cq730, kq730, q730a, q730b, q730c⟩ := isOf hZ e0 E1
  obtain ⟨_, _, ⟨T730, L730, k730, n730⟩, -, X730, ⟨Lc730, hQ730, l730, y730, z730⟩, st730⟩ := X0.virtualBack hx (y := (⟨kS0, "holdsRear", "()Z"⟩ : MethodName)) (z := (⟨kS0, "holdsRear", "()Z"⟩ : MethodName)) hown (mvT hZ (wd hw 25 rfl)) (mvT hZ (wd hw 26 rfl)) (notFace_of_selects (args := #[]) (mvT hZ (wd hw 28 rfl))) (mvT hZ (wd hw 28 rfl)) (mvT hZ (wd hw 27 rfl)) (by decide) (backOf (W := 0) (rm_hold0_4 l Z a0 hw [] b t3 k3 ([(.int (nar .boolean r0)), (.int (nar .boolean r1)), (.int (nar .boolean r2)), (.int (nar .boolean r3)), (.int 0), (.int 0), (.int 0), (.int 0)]) (nar .boolean r0) (nar .boolean r1) (nar .boolean r2) (nar .boolean r3) h0 n0 (by omega) Fh Fs F3 V3 rfl rfl rfl rfl) hZ (wd hw 29 rfl) (wd hw 7 rfl) (by decide) (by decide)) q730a q730c (g := (mkF m 285 (la6 p0 p1 p2 p3 p4 p5 (4 : Int32) (0 : Int32) r0 r1 r2 r3 b vv) [(.ref b)])) rfl (by rw [hml]; rfl) (Steps.refl _) (argsL := []) (rest := []) (lenOf pd_0 rfl) rfl (by show 2 * 0 + _ ≤ _; exact Nat.le_of_eq rfl) (hb hby at_285) (fun _ _ => ⟨rfl, e0, (by decide : 5 + 0 ≤ _), (by decide : 39 + 0 ≤ _)⟩)
  dsimp only [Pt.U, Pt.locs, Pt.cells, Pt.slots] at X730 l730 y730 z730 st730 hQ730
  subst l730 y730 z730
  obtain ⟨rfl, N730q, e730⟩ := hQ730
  have N730 := Fr.app N0 N730q
  have pre731 : ∀ t, Steps p.tables e below (T730.setTop (mkF m 298 (la6 p0 p1 p2 p3 p4 p5 (4 : Int32) (0 : Int32) r0 r1 r2 r3 b vv) [(.int 1)])) t → Steps p.tables e below (T0.setTop (mkF m 210 (la5 p0 p1 p2 p3 p4 p5 (4 : Int32) (0 : Int32) r0 r1 r2 r3 b) [])) t := by
    intro t kt
    refine pre716 t ?_
    show GO p e below T0 (mkF m 281 (la5 p0 p1 p2 p3 p4 p5 (4 : Int32) (0 : Int32) r0 r1 r2 r3 b) [(.int vv)]) _
    refine XS.istore X0.here hx rfl (hb hby at_281) rfl (l' := (la6 p0 p1 p2 p3 p4 p5 (4 : Int32) (0 : Int32) r0 r1 r2 r3 b vv)) rfl ?_
    show GO p e below T0 (mkF m 283 (la6 p0 p1 p2 p3 p4 p5 (4 : Int32) (0 : Int32) r0 r1 r2 r3 b vv) []) _
    refine XS.aload X0.here hx rfl (hb hby at_283) rfl rfl ?_
    show GO p e below T0 (mkF m 285 (la6 p0 p1 p2 p3 p4 p5 (4 : Int32) (0 : Int32) r0 r1 r2 r3 b vv) [(.ref b)]) _
    refine st730.trans ?_
    show GO p e below T730 (mkF m 288 (la6 p0 p1 p2 p3 p4 p5 (4 : Int32) (0 : Int32) r0 r1 r2 r3 b vv) [(.int (own_any [(nar .boolean r0), (nar .boolean r1), (nar .boolean r2), (nar .boolean r3)]))]) _
    refine XS.iload X730.here hx rfl (hb hby at_288) rfl ?_
    show GO p e below T730 (mkF m 290 (la6 p0 p1 p2 p3 p4 p5 (4 : Int32) (0 : Int32) r0 r1 r2 r3 b vv) [(.int vv), (.int (own_any [(nar .boolean r0), (nar .boolean r1), (nar .boolean r2), (nar .boolean r3)]))]) _
    refine XS.icmpNo X730.here hx rfl (hb hby at_290) rfl (teq ((by simp only [hvv, hb0, hb1, hb2, hb3]) : (own_any [(nar .boolean r0), (nar .boolean r1), (nar .boolean r2), (nar .boolean r3)]) = vv)).2 ?_
    show GO p e below T730 (mkF m 293 (la6 p0 p1 p2 p3 p4 p5 (4 : Int32) (0 : Int32) r0 r1 r2 r3 b vv) []) _
    refine XS.iconst X730.here hx rfl (hb hby at_293) ?_
    show GO p e below T730 (mkF m 294 (la6 p0 p1 p2 p3 p4 p5 (4 : Int32) (0 : Int32) r0 r1 r2 r3 b vv) [(.int 1)]) _
    refine XS.goto X730.here hx rfl (pc0 := 294) (pc' := 298) rfl (hb hby at_294) (by decide) (by decide) ?_
    exact kt
  exact ⟨vv, T730, h0, _, X730.mono (by decide) (by decide), e730, N730, fun t kt => pre731 t kt⟩
set_option maxRecDepth 65536 in
set_option maxHeartbeats 40000000 in
theorem tail_4_1 {p : Program} {l : Launch} {e : Env} {s : State} {m : MethodId} {args : Array Value} {below : List Frame} {meth : Method} {c : Code} {T0 : State} {locs : List Loc} {Z : State} {a0 : Array Value} (p0 : Int32) (p1 : Int32) (p2 : Int32) (p3 : Int32) (p4 : Int32) (p5 : Int32) (r0 : Int32) (r1 : Int32) (r2 : Int32) (r3 : Int32) (b : Addr) (t3 : Addr) (k3 : ClassId) {h0 : Heap} {n0 : Nat}
    (X0 : Stand p l e room_1 s m args below meth c T0 locs 5 39) (hx : p.tables.exec = Jvm.exec) (hZ : Z.Warmed39 s.vm) (hw : ∀ d ∈ tables_1, d.before a0 Z = true) (hby : c.code = code) (hml : c.maxLocals = 14) (hown : s.vm.findClass "com/example/occupancy/occupancy/loading/BlockHoldsRearPinLaw" = some m.cls) (e0 : T0.heap = h0) (N0 : Fr n0 locs) (Z0 : n0 ≤ h0.size) (E1 : Exa Z h0 b kS0) (Fh : Fld Z h0 b kS0 "head" "I" (.int 1)) (Fs : Fld Z h0 b kS0 "size" "I" (.int 3)) (F3 : Fld Z h0 b kS0 "rears" "[Z" (.ref t3)) (V3 : Arv Z h0 t3 k3 .boolean (8 : Int32) [(.int (nar .boolean r0)), (.int (nar .boolean r1)), (.int (nar .boolean r2)), (.int (nar .boolean r3)), (.int 0), (.int 0), (.int 0), (.int 0)] (.int 0)) (hb0 : nar .boolean r0 = r0) (hb1 : nar .boolean r1 = r1) (hb2 : nar .boolean r2 = r2) (hb3 : nar .boolean r3 = r3) :
    ∃ vv : Int32, ∃ (T' : State) (h' : Heap) (locs' : List Loc), Stand p l e room_1 s m args below meth c T' locs' 5 39 ∧ T'.heap = h' ∧ Fr n0 locs' ∧
      ∀ target, Steps p.tables e below (T'.setTop (mkF m 298 (la6 p0 p1 p2 p3 p4 p5 (4 : Int32) (1 : Int32) r0 r1 r2 r3 b vv) [(.int 1)])) target → Steps p.tables e below (T0.setTop (mkF m 210 (la5 p0 p1 p2 p3 p4 p5 (4 : Int32) (1 : Int32) r0 r1 r2 r3 b) [])) target := by
  have pre0 : ∀ t, Steps p.tables e below (T0.setTop (mkF m 210 (la5 p0 p1 p2 p3 p4 p5 (4 : Int32) (1 : Int32) r0 r1 r2 r3 b) [])) t → Steps p.tables e below (T0.setTop (mkF m 210 (la5 p0 p1 p2 p3 p4 p5 (4 : Int32) (1 : Int32) r0 r1 r2 r3 b) [])) t := fun _ k => k
  have lt_E1 := ltA E1.lt
  have lt_Fh := ltA Fh.lt
  have lt_Fs := ltA Fs.lt
  have lt_F3 := ltA F3.lt
  have lt_V3 := ltA V3.lt
  obtain ⟨vv, hvv, pre732⟩ : ∃ vv : Int32, (vv = own_any [r1, r2, r3]) ∧ ∀ t, Steps p.tables e below (T0.setTop (mkF m 281 (la5 p0 p1 p2 p3 p4 p5 (4 : Int32) (1 : Int32) r0 r1 r2 r3 b) [(.int vv)])) t → Steps p.tables e below (T0.setTop (mkF m 210 (la5 p0 p1 p2 p3 p4 p5 (4 : Int32) (1 : Int32) r0 r1 r2 r3 b) [])) t := by
    have pre733 : ∀ t, Steps p.tables e below (T0.setTop (mkF m 239 (la5 p0 p1 p2 p3 p4 p5 (4 : Int32) (1 : Int32) r0 r1 r2 r3 b) [(.int r1)])) t → Steps p.tables e below (T0.setTop (mkF m 210 (la5 p0 p1 p2 p3 p4 p5 (4 : Int32) (1 : Int32) r0 r1 r2 r3 b) [])) t := by
      intro t kt
      refine pre0 t ?_
      show GO p e below T0 (mkF m 210 (la5 p0 p1 p2 p3 p4 p5 (4 : Int32) (1 : Int32) r0 r1 r2 r3 b) []) _
      refine XS.iload X0.here hx rfl (hb hby at_210) rfl ?_
      show GO p e below T0 (mkF m 212 (la5 p0 p1 p2 p3 p4 p5 (4 : Int32) (1 : Int32) r0 r1 r2 r3 b) [(.int 4)]) _
      refine XS.ifNo X0.here hx rfl (hb hby at_212) rfl ((if0 _ _).trans (tlt ((by decide) : (0 : Int32) < (4 : Int32))).2.2.2) ?_
      show GO p e below T0 (mkF m 215 (la5 p0 p1 p2 p3 p4 p5 (4 : Int32) (1 : Int32) r0 r1 r2 r3 b) []) _
      refine XS.iload X0.here hx rfl (hb hby at_215) rfl ?_
      show GO p e below T0 (mkF m 217 (la5 p0 p1 p2 p3 p4 p5 (4 : Int32) (1 : Int32) r0 r1 r2 r3 b) [(.int 1)]) _
      refine XS.ifYes X0.here hx rfl (pc0 := 217) (pc' := 225) rfl (hb hby at_217) rfl ((if0 _ _).trans (tlt ((by decide) : (0 : Int32) < (1 : Int32))).2.2.1) (by decide) (by decide) ?_
      show GO p e below T0 (mkF m 225 (la5 p0 p1 p2 p3 p4 p5 (4 : Int32) (1 : Int32) r0 r1 r2 r3 b) []) _
      refine XS.iload X0.here hx rfl (hb hby at_225) rfl ?_
      show GO p e below T0 (mkF m 227 (la5 p0 p1 p2 p3 p4 p5 (4 : Int32) (1 : Int32) r0 r1 r2 r3 b) [(.int 4)]) _
      refine XS.iconst X0.here hx rfl (hb hby at_227) ?_
      show GO p e below T0 (mkF m 228 (la5 p0 p1 p2 p3 p4 p5 (4 : Int32) (1 : Int32) r0 r1 r2 r3 b) [(.int 1), (.int 4)]) _
      refine XS.icmpNo X0.here hx rfl (hb hby at_228) rfl (tlt ((by decide) : (1 : Int32) < (4 : Int32))).2.2.2 ?_
      show GO p e below T0 (mkF m 231 (la5 p0 p1 p2 p3 p4 p5 (4 : Int32) (1 : Int32) r0 r1 r2 r3 b) []) _
      refine XS.iload X0.here hx rfl (hb hby at_231) rfl ?_
      show GO p e below T0 (mkF m 233 (la5 p0 p1 p2 p3 p4 p5 (4 : Int32) (1 : Int32) r0 r1 r2 r3 b) [(.int 1)]) _
      refine XS.iconst X0.here hx rfl (hb hby at_233) ?_
      show GO p e below T0 (mkF m 234 (la5 p0 p1 p2 p3 p4 p5 (4 : Int32) (1 : Int32) r0 r1 r2 r3 b) [(.int 1), (.int 1)]) _
      refine XS.icmpNo X0.here hx rfl (hb hby at_234) rfl (flt ((by decide) : ¬ ((1 : Int32) < (1 : Int32)))).2.2.1 ?_
      show GO p e below T0 (mkF m 237 (la5 p0 p1 p2 p3 p4 p5 (4 : Int32) (1 : Int32) r0 r1 r2 r3 b) []) _
      refine XS.iload X0.here hx rfl (hb hby at_237) rfl ?_
      exact kt
    by_cases hb734 : r1 = (0 : Int32)
    · have pre735 : ∀ t, Steps p.tables e below (T0.setTop (mkF m 256 (la5 p0 p1 p2 p3 p4 p5 (4 : Int32) (1 : Int32) r0 r1 r2 r3 b) [(.int r2)])) t → Steps p.tables e below (T0.setTop (mkF m 210 (la5 p0 p1 p2 p3 p4 p5 (4 : Int32) (1 : Int32) r0 r1 r2 r3 b) [])) t := by
        intro t kt
        refine pre733 t ?_
        show GO p e below T0 (mkF m 239 (la5 p0 p1 p2 p3 p4 p5 (4 : Int32) (1 : Int32) r0 r1 r2 r3 b) [(.int r1)]) _
        refine XS.ifNo X0.here hx rfl (hb hby at_239) rfl ((if0 _ _).trans (teq (hb734 : r1 = (0 : Int32))).2) ?_
        show GO p e below T0 (mkF m 242 (la5 p0 p1 p2 p3 p4 p5 (4 : Int32) (1 : Int32) r0 r1 r2 r3 b) []) _
        refine XS.iload X0.here hx rfl (hb hby at_242) rfl ?_
        show GO p e below T0 (mkF m 244 (la5 p0 p1 p2 p3 p4 p5 (4 : Int32) (1 : Int32) r0 r1 r2 r3 b) [(.int 4)]) _
        refine XS.iconst X0.here hx rfl (hb hby at_244) ?_
        show GO p e below T0 (mkF m 245 (la5 p0 p1 p2 p3 p4 p5 (4 : Int32) (1 : Int32) r0 r1 r2 r3 b) [(.int 2), (.int 4)]) _
        refine XS.icmpNo X0.here hx rfl (hb hby at_245) rfl (tlt ((by decide) : (2 : Int32) < (4 : Int32))).2.2.2 ?_
        show GO p e below T0 (mkF m 248 (la5 p0 p1 p2 p3 p4 p5 (4 : Int32) (1 : Int32) r0 r1 r2 r3 b) []) _
        refine XS.iload X0.here hx rfl (hb hby at_248) rfl ?_
        show GO p e below T0 (mkF m 250 (la5 p0 p1 p2 p3 p4 p5 (4 : Int32) (1 : Int32) r0 r1 r2 r3 b) [(.int 1)]) _
        refine XS.iconst X0.here hx rfl (hb hby at_250) ?_
        show GO p e below T0 (mkF m 251 (la5 p0 p1 p2 p3 p4 p5 (4 : Int32) (1 : Int32) r0 r1 r2 r3 b) [(.int 2), (.int 1)]) _
        refine XS.icmpNo X0.here hx rfl (hb hby at_251) rfl (flt ((by decide) : ¬ ((2 : Int32) < (1 : Int32)))).2.2.1 ?_
        show GO p e below T0 (mkF m 254 (la5 p0 p1 p2 p3 p4 p5 (4 : Int32) (1 : Int32) r0 r1 r2 r3 b) []) _
        refine XS.iload X0.here hx rfl (hb hby at_254) rfl ?_
        exact kt
      by_cases hb736 : r2 = (0 : Int32)
      · have pre737 : ∀ t, Steps p.tables e below (T0.setTop (mkF m 273 (la5 p0 p1 p2 p3 p4 p5 (4 : Int32) (1 : Int32) r0 r1 r2 r3 b) [(.int r3)])) t → Steps p.tables e below (T0.setTop (mkF m 210 (la5 p0 p1 p2 p3 p4 p5 (4 : Int32) (1 : Int32) r0 r1 r2 r3 b) [])) t := by
          intro t kt
          refine pre735 t ?_
          show GO p e below T0 (mkF m 256 (la5 p0 p1 p2 p3 p4 p5 (4 : Int32) (1 : Int32) r0 r1 r2 r3 b) [(.int r2)]) _
          refine XS.ifNo X0.here hx rfl (hb hby at_256) rfl ((if0 _ _).trans (teq (hb736 : r2 = (0 : Int32))).2) ?_
          show GO p e below T0 (mkF m 259 (la5 p0 p1 p2 p3 p4 p5 (4 : Int32) (1 : Int32) r0 r1 r2 r3 b) []) _
          refine XS.iload X0.here hx rfl (hb hby at_259) rfl ?_
          show GO p e below T0 (mkF m 261 (la5 p0 p1 p2 p3 p4 p5 (4 : Int32) (1 : Int32) r0 r1 r2 r3 b) [(.int 4)]) _
          refine XS.iconst X0.here hx rfl (hb hby at_261) ?_
          show GO p e below T0 (mkF m 262 (la5 p0 p1 p2 p3 p4 p5 (4 : Int32) (1 : Int32) r0 r1 r2 r3 b) [(.int 3), (.int 4)]) _
          refine XS.icmpNo X0.here hx rfl (hb hby at_262) rfl (tlt ((by decide) : (3 : Int32) < (4 : Int32))).2.2.2 ?_
          show GO p e below T0 (mkF m 265 (la5 p0 p1 p2 p3 p4 p5 (4 : Int32) (1 : Int32) r0 r1 r2 r3 b) []) _
          refine XS.iload X0.here hx rfl (hb hby at_265) rfl ?_
          show GO p e below T0 (mkF m 267 (la5 p0 p1 p2 p3 p4 p5 (4 : Int32) (1 : Int32) r0 r1 r2 r3 b) [(.int 1)]) _
          refine XS.iconst X0.here hx rfl (hb hby at_267) ?_
          show GO p e below T0 (mkF m 268 (la5 p0 p1 p2 p3 p4 p5 (4 : Int32) (1 : Int32) r0 r1 r2 r3 b) [(.int 3), (.int 1)]) _
          refine XS.icmpNo X0.here hx rfl (hb hby at_268) rfl (flt ((by decide) : ¬ ((3 : Int32) < (1 : Int32)))).2.2.1 ?_
          show GO p e below T0 (mkF m 271 (la5 p0 p1 p2 p3 p4 p5 (4 : Int32) (1 : Int32) r0 r1 r2 r3 b) []) _
          refine XS.iload X0.here hx rfl (hb hby at_271) rfl ?_
          exact kt
        by_cases hb738 : r3 = (0 : Int32)
        · have pre739 : ∀ t, Steps p.tables e below (T0.setTop (mkF m 281 (la5 p0 p1 p2 p3 p4 p5 (4 : Int32) (1 : Int32) r0 r1 r2 r3 b) [(.int 0)])) t → Steps p.tables e below (T0.setTop (mkF m 210 (la5 p0 p1 p2 p3 p4 p5 (4 : Int32) (1 : Int32) r0 r1 r2 r3 b) [])) t := by
            intro t kt
            refine pre737 t ?_
            show GO p e below T0 (mkF m 273 (la5 p0 p1 p2 p3 p4 p5 (4 : Int32) (1 : Int32) r0 r1 r2 r3 b) [(.int r3)]) _
            refine XS.ifYes X0.here hx rfl (pc0 := 273) (pc' := 280) rfl (hb hby at_273) rfl ((if0 _ _).trans (teq (hb738 : r3 = (0 : Int32))).1) (by decide) (by decide) ?_
            show GO p e below T0 (mkF m 280 (la5 p0 p1 p2 p3 p4 p5 (4 : Int32) (1 : Int32) r0 r1 r2 r3 b) []) _
            refine XS.iconst X0.here hx rfl (hb hby at_280) ?_
            exact kt
          exact ⟨(0 : Int32), (by simp [own_any, hb734, hb736, hb738]), fun t kt => pre739 t kt⟩
        · have pre740 : ∀ t, Steps p.tables e below (T0.setTop (mkF m 281 (la5 p0 p1 p2 p3 p4 p5 (4 : Int32) (1 : Int32) r0 r1 r2 r3 b) [(.int 1)])) t → Steps p.tables e below (T0.setTop (mkF m 210 (la5 p0 p1 p2 p3 p4 p5 (4 : Int32) (1 : Int32) r0 r1 r2 r3 b) [])) t := by
            intro t kt
            refine pre737 t ?_
            show GO p e below T0 (mkF m 273 (la5 p0 p1 p2 p3 p4 p5 (4 : Int32) (1 : Int32) r0 r1 r2 r3 b) [(.int r3)]) _
            refine XS.ifNo X0.here hx rfl (hb hby at_273) rfl ((if0 _ _).trans (feq (hb738 : ¬ (r3 = (0 : Int32)))).1) ?_
            show GO p e below T0 (mkF m 276 (la5 p0 p1 p2 p3 p4 p5 (4 : Int32) (1 : Int32) r0 r1 r2 r3 b) []) _
            refine XS.iconst X0.here hx rfl (hb hby at_276) ?_
            show GO p e below T0 (mkF m 277 (la5 p0 p1 p2 p3 p4 p5 (4 : Int32) (1 : Int32) r0 r1 r2 r3 b) [(.int 1)]) _
            refine XS.goto X0.here hx rfl (pc0 := 277) (pc' := 281) rfl (hb hby at_277) (by decide) (by decide) ?_
            exact kt
          exact ⟨(1 : Int32), (by simp [own_any, hb734, hb736, hb738]), fun t kt => pre740 t kt⟩
      · have pre741 : ∀ t, Steps p.tables e below (T0.setTop (mkF m 281 (la5 p0 p1 p2 p3 p4 p5 (4 : Int32) (1 : Int32) r0 r1 r2 r3 b) [(.int 1)])) t → Steps p.tables e below (T0.setTop (mkF m 210 (la5 p0 p1 p2 p3 p4 p5 (4 : Int32) (1 : Int32) r0 r1 r2 r3 b) [])) t := by
          intro t kt
          refine pre735 t ?_
          show GO p e below T0 (mkF m 256 (la5 p0 p1 p2 p3 p4 p5 (4 : Int32) (1 : Int32) r0 r1 r2 r3 b) [(.int r2)]) _
          refine XS.ifYes X0.here hx rfl (pc0 := 256) (pc' := 276) rfl (hb hby at_256) rfl ((if0 _ _).trans (feq (hb736 : ¬ (r2 = (0 : Int32)))).2) (by decide) (by decide) ?_
          show GO p e below T0 (mkF m 276 (la5 p0 p1 p2 p3 p4 p5 (4 : Int32) (1 : Int32) r0 r1 r2 r3 b) []) _
          refine XS.iconst X0.here hx rfl (hb hby at_276) ?_
          show GO p e below T0 (mkF m 277 (la5 p0 p1 p2 p3 p4 p5 (4 : Int32) (1 : Int32) r0 r1 r2 r3 b) [(.int 1)]) _
          refine XS.goto X0.here hx rfl (pc0 := 277) (pc' := 281) rfl (hb hby at_277) (by decide) (by decide) ?_
          exact kt
        exact ⟨(1 : Int32), (by simp [own_any, hb734, hb736]), fun t kt => pre741 t kt⟩
    · have pre742 : ∀ t, Steps p.tables e below (T0.setTop (mkF m 281 (la5 p0 p1 p2 p3 p4 p5 (4 : Int32) (1 : Int32) r0 r1 r2 r3 b) [(.int 1)])) t → Steps p.tables e below (T0.setTop (mkF m 210 (la5 p0 p1 p2 p3 p4 p5 (4 : Int32) (1 : Int32) r0 r1 r2 r3 b) [])) t := by
        intro t kt
        refine pre733 t ?_
        show GO p e below T0 (mkF m 239 (la5 p0 p1 p2 p3 p4 p5 (4 : Int32) (1 : Int32) r0 r1 r2 r3 b) [(.int r1)]) _
        refine XS.ifYes X0.here hx rfl (pc0 := 239) (pc' := 276) rfl (hb hby at_239) rfl ((if0 _ _).trans (feq (hb734 : ¬ (r1 = (0 : Int32)))).2) (by decide) (by decide) ?_
        show GO p e below T0 (mkF m 276 (la5 p0 p1 p2 p3 p4 p5 (4 : Int32) (1 : Int32) r0 r1 r2 r3 b) []) _
        refine XS.iconst X0.here hx rfl (hb hby at_276) ?_
        show GO p e below T0 (mkF m 277 (la5 p0 p1 p2 p3 p4 p5 (4 : Int32) (1 : Int32) r0 r1 r2 r3 b) [(.int 1)]) _
        refine XS.goto X0.here hx rfl (pc0 := 277) (pc' := 281) rfl (hb hby at_277) (by decide) (by decide) ?_
        exact kt
      exact ⟨(1 : Int32), (by simp [own_any, hb734]), fun t kt => pre742 t kt⟩
  -- pc 285: Block.holdsRear by rm_hold1_3
  obtain ⟨cq743, kq743, q743a, q743b, q743c⟩ := isOf hZ e0 E1
  obtain ⟨_, _, ⟨T743, L743, k743, n743⟩, -, X743, ⟨Lc743, hQ743, l743, y743, z743⟩, st743⟩ := X0.virtualBack hx (y := (⟨kS0, "holdsRear", "()Z"⟩ : MethodName)) (z := (⟨kS0, "holdsRear", "()Z"⟩ : MethodName)) hown (mvT hZ (wd hw 25 rfl)) (mvT hZ (wd hw 26 rfl)) (notFace_of_selects (args := #[]) (mvT hZ (wd hw 28 rfl))) (mvT hZ (wd hw 28 rfl)) (mvT hZ (wd hw 27 rfl)) (by decide) (backOf (W := 0) (rm_hold1_3 l Z a0 hw [] b t3 k3 ([(.int (nar .boolean r0)), (.int (nar .boolean r1)), (.int (nar .boolean r2)), (.int (nar .boolean r3)), (.int 0), (.int 0), (.int 0), (.int 0)]) (nar .boolean r1) (nar .boolean r2) (nar .boolean r3) h0 n0 (by omega) Fh Fs F3 V3 rfl rfl rfl) hZ (wd hw 29 rfl) (wd hw 7 rfl) (by decide) (by decide)) q743a q743c (g := (mkF m 285 (la6 p0 p1 p2 p3 p4 p5 (4 : Int32) (1 : Int32) r0 r1 r2 r3 b vv) [(.ref b)])) rfl (by rw [hml]; rfl) (Steps.refl _) (argsL := []) (rest := []) (lenOf pd_0 rfl) rfl (by show 2 * 0 + _ ≤ _; exact Nat.le_of_eq rfl) (hb hby at_285) (fun _ _ => ⟨rfl, e0, (by decide : 5 + 0 ≤ _), (by decide : 39 + 0 ≤ _)⟩)
  dsimp only [Pt.U, Pt.locs, Pt.cells, Pt.slots] at X743 l743 y743 z743 st743 hQ743
  subst l743 y743 z743
  obtain ⟨rfl, N743q, e743⟩ := hQ743
  have N743 := Fr.app N0 N743q
  have pre744 : ∀ t, Steps p.tables e below (T743.setTop (mkF m 298 (la6 p0 p1 p2 p3 p4 p5 (4 : Int32) (1 : Int32) r0 r1 r2 r3 b vv) [(.int 1)])) t → Steps p.tables e below (T0.setTop (mkF m 210 (la5 p0 p1 p2 p3 p4 p5 (4 : Int32) (1 : Int32) r0 r1 r2 r3 b) [])) t := by
    intro t kt
    refine pre732 t ?_
    show GO p e below T0 (mkF m 281 (la5 p0 p1 p2 p3 p4 p5 (4 : Int32) (1 : Int32) r0 r1 r2 r3 b) [(.int vv)]) _
    refine XS.istore X0.here hx rfl (hb hby at_281) rfl (l' := (la6 p0 p1 p2 p3 p4 p5 (4 : Int32) (1 : Int32) r0 r1 r2 r3 b vv)) rfl ?_
    show GO p e below T0 (mkF m 283 (la6 p0 p1 p2 p3 p4 p5 (4 : Int32) (1 : Int32) r0 r1 r2 r3 b vv) []) _
    refine XS.aload X0.here hx rfl (hb hby at_283) rfl rfl ?_
    show GO p e below T0 (mkF m 285 (la6 p0 p1 p2 p3 p4 p5 (4 : Int32) (1 : Int32) r0 r1 r2 r3 b vv) [(.ref b)]) _
    refine st743.trans ?_
    show GO p e below T743 (mkF m 288 (la6 p0 p1 p2 p3 p4 p5 (4 : Int32) (1 : Int32) r0 r1 r2 r3 b vv) [(.int (own_any [(nar .boolean r1), (nar .boolean r2), (nar .boolean r3)]))]) _
    refine XS.iload X743.here hx rfl (hb hby at_288) rfl ?_
    show GO p e below T743 (mkF m 290 (la6 p0 p1 p2 p3 p4 p5 (4 : Int32) (1 : Int32) r0 r1 r2 r3 b vv) [(.int vv), (.int (own_any [(nar .boolean r1), (nar .boolean r2), (nar .boolean r3)]))]) _
    refine XS.icmpNo X743.here hx rfl (hb hby at_290) rfl (teq ((by simp only [hvv, hb0, hb1, hb2, hb3]) : (own_any [(nar .boolean r1), (nar .boolean r2), (nar .boolean r3)]) = vv)).2 ?_
    show GO p e below T743 (mkF m 293 (la6 p0 p1 p2 p3 p4 p5 (4 : Int32) (1 : Int32) r0 r1 r2 r3 b vv) []) _
    refine XS.iconst X743.here hx rfl (hb hby at_293) ?_
    show GO p e below T743 (mkF m 294 (la6 p0 p1 p2 p3 p4 p5 (4 : Int32) (1 : Int32) r0 r1 r2 r3 b vv) [(.int 1)]) _
    refine XS.goto X743.here hx rfl (pc0 := 294) (pc' := 298) rfl (hb hby at_294) (by decide) (by decide) ?_
    exact kt
  exact ⟨vv, T743, h0, _, X743.mono (by decide) (by decide), e743, N743, fun t kt => pre744 t kt⟩
set_option maxRecDepth 65536 in
set_option maxHeartbeats 40000000 in
theorem tail_4_2 {p : Program} {l : Launch} {e : Env} {s : State} {m : MethodId} {args : Array Value} {below : List Frame} {meth : Method} {c : Code} {T0 : State} {locs : List Loc} {Z : State} {a0 : Array Value} (p0 : Int32) (p1 : Int32) (p2 : Int32) (p3 : Int32) (p4 : Int32) (p5 : Int32) (r0 : Int32) (r1 : Int32) (r2 : Int32) (r3 : Int32) (b : Addr) (t3 : Addr) (k3 : ClassId) {h0 : Heap} {n0 : Nat}
    (X0 : Stand p l e room_1 s m args below meth c T0 locs 5 39) (hx : p.tables.exec = Jvm.exec) (hZ : Z.Warmed39 s.vm) (hw : ∀ d ∈ tables_1, d.before a0 Z = true) (hby : c.code = code) (hml : c.maxLocals = 14) (hown : s.vm.findClass "com/example/occupancy/occupancy/loading/BlockHoldsRearPinLaw" = some m.cls) (e0 : T0.heap = h0) (N0 : Fr n0 locs) (Z0 : n0 ≤ h0.size) (E1 : Exa Z h0 b kS0) (Fh : Fld Z h0 b kS0 "head" "I" (.int 2)) (Fs : Fld Z h0 b kS0 "size" "I" (.int 2)) (F3 : Fld Z h0 b kS0 "rears" "[Z" (.ref t3)) (V3 : Arv Z h0 t3 k3 .boolean (8 : Int32) [(.int (nar .boolean r0)), (.int (nar .boolean r1)), (.int (nar .boolean r2)), (.int (nar .boolean r3)), (.int 0), (.int 0), (.int 0), (.int 0)] (.int 0)) (hb0 : nar .boolean r0 = r0) (hb1 : nar .boolean r1 = r1) (hb2 : nar .boolean r2 = r2) (hb3 : nar .boolean r3 = r3) :
    ∃ vv : Int32, ∃ (T' : State) (h' : Heap) (locs' : List Loc), Stand p l e room_1 s m args below meth c T' locs' 5 39 ∧ T'.heap = h' ∧ Fr n0 locs' ∧
      ∀ target, Steps p.tables e below (T'.setTop (mkF m 298 (la6 p0 p1 p2 p3 p4 p5 (4 : Int32) (2 : Int32) r0 r1 r2 r3 b vv) [(.int 1)])) target → Steps p.tables e below (T0.setTop (mkF m 210 (la5 p0 p1 p2 p3 p4 p5 (4 : Int32) (2 : Int32) r0 r1 r2 r3 b) [])) target := by
  have pre0 : ∀ t, Steps p.tables e below (T0.setTop (mkF m 210 (la5 p0 p1 p2 p3 p4 p5 (4 : Int32) (2 : Int32) r0 r1 r2 r3 b) [])) t → Steps p.tables e below (T0.setTop (mkF m 210 (la5 p0 p1 p2 p3 p4 p5 (4 : Int32) (2 : Int32) r0 r1 r2 r3 b) [])) t := fun _ k => k
  have lt_E1 := ltA E1.lt
  have lt_Fh := ltA Fh.lt
  have lt_Fs := ltA Fs.lt
  have lt_F3 := ltA F3.lt
  have lt_V3 := ltA V3.lt
  obtain ⟨vv, hvv, pre745⟩ : ∃ vv : Int32, (vv = own_any [r2, r3]) ∧ ∀ t, Steps p.tables e below (T0.setTop (mkF m 281 (la5 p0 p1 p2 p3 p4 p5 (4 : Int32) (2 : Int32) r0 r1 r2 r3 b) [(.int vv)])) t → Steps p.tables e below (T0.setTop (mkF m 210 (la5 p0 p1 p2 p3 p4 p5 (4 : Int32) (2 : Int32) r0 r1 r2 r3 b) [])) t := by
    have pre746 : ∀ t, Steps p.tables e below (T0.setTop (mkF m 256 (la5 p0 p1 p2 p3 p4 p5 (4 : Int32) (2 : Int32) r0 r1 r2 r3 b) [(.int r2)])) t → Steps p.tables e below (T0.setTop (mkF m 210 (la5 p0 p1 p2 p3 p4 p5 (4 : Int32) (2 : Int32) r0 r1 r2 r3 b) [])) t := by
      intro t kt
      refine pre0 t ?_
      show GO p e below T0 (mkF m 210 (la5 p0 p1 p2 p3 p4 p5 (4 : Int32) (2 : Int32) r0 r1 r2 r3 b) []) _
      refine XS.iload X0.here hx rfl (hb hby at_210) rfl ?_
      show GO p e below T0 (mkF m 212 (la5 p0 p1 p2 p3 p4 p5 (4 : Int32) (2 : Int32) r0 r1 r2 r3 b) [(.int 4)]) _
      refine XS.ifNo X0.here hx rfl (hb hby at_212) rfl ((if0 _ _).trans (tlt ((by decide) : (0 : Int32) < (4 : Int32))).2.2.2) ?_
      show GO p e below T0 (mkF m 215 (la5 p0 p1 p2 p3 p4 p5 (4 : Int32) (2 : Int32) r0 r1 r2 r3 b) []) _
      refine XS.iload X0.here hx rfl (hb hby at_215) rfl ?_
      show GO p e below T0 (mkF m 217 (la5 p0 p1 p2 p3 p4 p5 (4 : Int32) (2 : Int32) r0 r1 r2 r3 b) [(.int 2)]) _
      refine XS.ifYes X0.here hx rfl (pc0 := 217) (pc' := 225) rfl (hb hby at_217) rfl ((if0 _ _).trans (tlt ((by decide) : (0 : Int32) < (2 : Int32))).2.2.1) (by decide) (by decide) ?_
      show GO p e below T0 (mkF m 225 (la5 p0 p1 p2 p3 p4 p5 (4 : Int32) (2 : Int32) r0 r1 r2 r3 b) []) _
      refine XS.iload X0.here hx rfl (hb hby at_225) rfl ?_
      show GO p e below T0 (mkF m 227 (la5 p0 p1 p2 p3 p4 p5 (4 : Int32) (2 : Int32) r0 r1 r2 r3 b) [(.int 4)]) _
      refine XS.iconst X0.here hx rfl (hb hby at_227) ?_
      show GO p e below T0 (mkF m 228 (la5 p0 p1 p2 p3 p4 p5 (4 : Int32) (2 : Int32) r0 r1 r2 r3 b) [(.int 1), (.int 4)]) _
      refine XS.icmpNo X0.here hx rfl (hb hby at_228) rfl (tlt ((by decide) : (1 : Int32) < (4 : Int32))).2.2.2 ?_
      show GO p e below T0 (mkF m 231 (la5 p0 p1 p2 p3 p4 p5 (4 : Int32) (2 : Int32) r0 r1 r2 r3 b) []) _
      refine XS.iload X0.here hx rfl (hb hby at_231) rfl ?_
      show GO p e below T0 (mkF m 233 (la5 p0 p1 p2 p3 p4 p5 (4 : Int32) (2 : Int32) r0 r1 r2 r3 b) [(.int 2)]) _
      refine XS.iconst X0.here hx rfl (hb hby at_233) ?_
      show GO p e below T0 (mkF m 234 (la5 p0 p1 p2 p3 p4 p5 (4 : Int32) (2 : Int32) r0 r1 r2 r3 b) [(.int 1), (.int 2)]) _
      refine XS.icmpYes X0.here hx rfl (pc0 := 234) (pc' := 242) rfl (hb hby at_234) rfl (tlt ((by decide) : (1 : Int32) < (2 : Int32))).2.2.1 (by decide) (by decide) ?_
      show GO p e below T0 (mkF m 242 (la5 p0 p1 p2 p3 p4 p5 (4 : Int32) (2 : Int32) r0 r1 r2 r3 b) []) _
      refine XS.iload X0.here hx rfl (hb hby at_242) rfl ?_
      show GO p e below T0 (mkF m 244 (la5 p0 p1 p2 p3 p4 p5 (4 : Int32) (2 : Int32) r0 r1 r2 r3 b) [(.int 4)]) _
      refine XS.iconst X0.here hx rfl (hb hby at_244) ?_
      show GO p e below T0 (mkF m 245 (la5 p0 p1 p2 p3 p4 p5 (4 : Int32) (2 : Int32) r0 r1 r2 r3 b) [(.int 2), (.int 4)]) _
      refine XS.icmpNo X0.here hx rfl (hb hby at_245) rfl (tlt ((by decide) : (2 : Int32) < (4 : Int32))).2.2.2 ?_
      show GO p e below T0 (mkF m 248 (la5 p0 p1 p2 p3 p4 p5 (4 : Int32) (2 : Int32) r0 r1 r2 r3 b) []) _
      refine XS.iload X0.here hx rfl (hb hby at_248) rfl ?_
      show GO p e below T0 (mkF m 250 (la5 p0 p1 p2 p3 p4 p5 (4 : Int32) (2 : Int32) r0 r1 r2 r3 b) [(.int 2)]) _
      refine XS.iconst X0.here hx rfl (hb hby at_250) ?_
      show GO p e below T0 (mkF m 251 (la5 p0 p1 p2 p3 p4 p5 (4 : Int32) (2 : Int32) r0 r1 r2 r3 b) [(.int 2), (.int 2)]) _
      refine XS.icmpNo X0.here hx rfl (hb hby at_251) rfl (flt ((by decide) : ¬ ((2 : Int32) < (2 : Int32)))).2.2.1 ?_
      show GO p e below T0 (mkF m 254 (la5 p0 p1 p2 p3 p4 p5 (4 : Int32) (2 : Int32) r0 r1 r2 r3 b) []) _
      refine XS.iload X0.here hx rfl (hb hby at_254) rfl ?_
      exact kt
    by_cases hb747 : r2 = (0 : Int32)
    · have pre748 : ∀ t, Steps p.tables e below (T0.setTop (mkF m 273 (la5 p0 p1 p2 p3 p4 p5 (4 : Int32) (2 : Int32) r0 r1 r2 r3 b) [(.int r3)])) t → Steps p.tables e below (T0.setTop (mkF m 210 (la5 p0 p1 p2 p3 p4 p5 (4 : Int32) (2 : Int32) r0 r1 r2 r3 b) [])) t := by
        intro t kt
        refine pre746 t ?_
        show GO p e below T0 (mkF m 256 (la5 p0 p1 p2 p3 p4 p5 (4 : Int32) (2 : Int32) r0 r1 r2 r3 b) [(.int r2)]) _
        refine XS.ifNo X0.here hx rfl (hb hby at_256) rfl ((if0 _ _).trans (teq (hb747 : r2 = (0 : Int32))).2) ?_
        show GO p e below T0 (mkF m 259 (la5 p0 p1 p2 p3 p4 p5 (4 : Int32) (2 : Int32) r0 r1 r2 r3 b) []) _
        refine XS.iload X0.here hx rfl (hb hby at_259) rfl ?_
        show GO p e below T0 (mkF m 261 (la5 p0 p1 p2 p3 p4 p5 (4 : Int32) (2 : Int32) r0 r1 r2 r3 b) [(.int 4)]) _
        refine XS.iconst X0.here hx rfl (hb hby at_261) ?_
        show GO p e below T0 (mkF m 262 (la5 p0 p1 p2 p3 p4 p5 (4 : Int32) (2 : Int32) r0 r1 r2 r3 b) [(.int 3), (.int 4)]) _
        refine XS.icmpNo X0.here hx rfl (hb hby at_262) rfl (tlt ((by decide) : (3 : Int32) < (4 : Int32))).2.2.2 ?_
        show GO p e below T0 (mkF m 265 (la5 p0 p1 p2 p3 p4 p5 (4 : Int32) (2 : Int32) r0 r1 r2 r3 b) []) _
        refine XS.iload X0.here hx rfl (hb hby at_265) rfl ?_
        show GO p e below T0 (mkF m 267 (la5 p0 p1 p2 p3 p4 p5 (4 : Int32) (2 : Int32) r0 r1 r2 r3 b) [(.int 2)]) _
        refine XS.iconst X0.here hx rfl (hb hby at_267) ?_
        show GO p e below T0 (mkF m 268 (la5 p0 p1 p2 p3 p4 p5 (4 : Int32) (2 : Int32) r0 r1 r2 r3 b) [(.int 3), (.int 2)]) _
        refine XS.icmpNo X0.here hx rfl (hb hby at_268) rfl (flt ((by decide) : ¬ ((3 : Int32) < (2 : Int32)))).2.2.1 ?_
        show GO p e below T0 (mkF m 271 (la5 p0 p1 p2 p3 p4 p5 (4 : Int32) (2 : Int32) r0 r1 r2 r3 b) []) _
        refine XS.iload X0.here hx rfl (hb hby at_271) rfl ?_
        exact kt
      by_cases hb749 : r3 = (0 : Int32)
      · have pre750 : ∀ t, Steps p.tables e below (T0.setTop (mkF m 281 (la5 p0 p1 p2 p3 p4 p5 (4 : Int32) (2 : Int32) r0 r1 r2 r3 b) [(.int 0)])) t → Steps p.tables e below (T0.setTop (mkF m 210 (la5 p0 p1 p2 p3 p4 p5 (4 : Int32) (2 : Int32) r0 r1 r2 r3 b) [])) t := by
          intro t kt
          refine pre748 t ?_
          show GO p e below T0 (mkF m 273 (la5 p0 p1 p2 p3 p4 p5 (4 : Int32) (2 : Int32) r0 r1 r2 r3 b) [(.int r3)]) _
          refine XS.ifYes X0.here hx rfl (pc0 := 273) (pc' := 280) rfl (hb hby at_273) rfl ((if0 _ _).trans (teq (hb749 : r3 = (0 : Int32))).1) (by decide) (by decide) ?_
          show GO p e below T0 (mkF m 280 (la5 p0 p1 p2 p3 p4 p5 (4 : Int32) (2 : Int32) r0 r1 r2 r3 b) []) _
          refine XS.iconst X0.here hx rfl (hb hby at_280) ?_
          exact kt
        exact ⟨(0 : Int32), (by simp [own_any, hb747, hb749]), fun t kt => pre750 t kt⟩
      · have pre751 : ∀ t, Steps p.tables e below (T0.setTop (mkF m 281 (la5 p0 p1 p2 p3 p4 p5 (4 : Int32) (2 : Int32) r0 r1 r2 r3 b) [(.int 1)])) t → Steps p.tables e below (T0.setTop (mkF m 210 (la5 p0 p1 p2 p3 p4 p5 (4 : Int32) (2 : Int32) r0 r1 r2 r3 b) [])) t := by
          intro t kt
          refine pre748 t ?_
          show GO p e below T0 (mkF m 273 (la5 p0 p1 p2 p3 p4 p5 (4 : Int32) (2 : Int32) r0 r1 r2 r3 b) [(.int r3)]) _
          refine XS.ifNo X0.here hx rfl (hb hby at_273) rfl ((if0 _ _).trans (feq (hb749 : ¬ (r3 = (0 : Int32)))).1) ?_
          show GO p e below T0 (mkF m 276 (la5 p0 p1 p2 p3 p4 p5 (4 : Int32) (2 : Int32) r0 r1 r2 r3 b) []) _
          refine XS.iconst X0.here hx rfl (hb hby at_276) ?_
          show GO p e below T0 (mkF m 277 (la5 p0 p1 p2 p3 p4 p5 (4 : Int32) (2 : Int32) r0 r1 r2 r3 b) [(.int 1)]) _
          refine XS.goto X0.here hx rfl (pc0 := 277) (pc' := 281) rfl (hb hby at_277) (by decide) (by decide) ?_
          exact kt
        exact ⟨(1 : Int32), (by simp [own_any, hb747, hb749]), fun t kt => pre751 t kt⟩
    · have pre752 : ∀ t, Steps p.tables e below (T0.setTop (mkF m 281 (la5 p0 p1 p2 p3 p4 p5 (4 : Int32) (2 : Int32) r0 r1 r2 r3 b) [(.int 1)])) t → Steps p.tables e below (T0.setTop (mkF m 210 (la5 p0 p1 p2 p3 p4 p5 (4 : Int32) (2 : Int32) r0 r1 r2 r3 b) [])) t := by
        intro t kt
        refine pre746 t ?_
        show GO p e below T0 (mkF m 256 (la5 p0 p1 p2 p3 p4 p5 (4 : Int32) (2 : Int32) r0 r1 r2 r3 b) [(.int r2)]) _
        refine XS.ifYes X0.here hx rfl (pc0 := 256) (pc' := 276) rfl (hb hby at_256) rfl ((if0 _ _).trans (feq (hb747 : ¬ (r2 = (0 : Int32)))).2) (by decide) (by decide) ?_
        show GO p e below T0 (mkF m 276 (la5 p0 p1 p2 p3 p4 p5 (4 : Int32) (2 : Int32) r0 r1 r2 r3 b) []) _
        refine XS.iconst X0.here hx rfl (hb hby at_276) ?_
        show GO p e below T0 (mkF m 277 (la5 p0 p1 p2 p3 p4 p5 (4 : Int32) (2 : Int32) r0 r1 r2 r3 b) [(.int 1)]) _
        refine XS.goto X0.here hx rfl (pc0 := 277) (pc' := 281) rfl (hb hby at_277) (by decide) (by decide) ?_
        exact kt
      exact ⟨(1 : Int32), (by simp [own_any, hb747]), fun t kt => pre752 t kt⟩
  -- pc 285: Block.holdsRear by rm_hold2_2
  obtain ⟨cq753, kq753, q753a, q753b, q753c⟩ := isOf hZ e0 E1
  obtain ⟨_, _, ⟨T753, L753, k753, n753⟩, -, X753, ⟨Lc753, hQ753, l753, y753, z753⟩, st753⟩ := X0.virtualBack hx (y := (⟨kS0, "holdsRear", "()Z"⟩ : MethodName)) (z := (⟨kS0, "holdsRear", "()Z"⟩ : MethodName)) hown (mvT hZ (wd hw 25 rfl)) (mvT hZ (wd hw 26 rfl)) (notFace_of_selects (args := #[]) (mvT hZ (wd hw 28 rfl))) (mvT hZ (wd hw 28 rfl)) (mvT hZ (wd hw 27 rfl)) (by decide) (backOf (W := 0) (rm_hold2_2 l Z a0 hw [] b t3 k3 ([(.int (nar .boolean r0)), (.int (nar .boolean r1)), (.int (nar .boolean r2)), (.int (nar .boolean r3)), (.int 0), (.int 0), (.int 0), (.int 0)]) (nar .boolean r2) (nar .boolean r3) h0 n0 (by omega) Fh Fs F3 V3 rfl rfl) hZ (wd hw 29 rfl) (wd hw 7 rfl) (by decide) (by decide)) q753a q753c (g := (mkF m 285 (la6 p0 p1 p2 p3 p4 p5 (4 : Int32) (2 : Int32) r0 r1 r2 r3 b vv) [(.ref b)])) rfl (by rw [hml]; rfl) (Steps.refl _) (argsL := []) (rest := []) (lenOf pd_0 rfl) rfl (by show 2 * 0 + _ ≤ _; exact Nat.le_of_eq rfl) (hb hby at_285) (fun _ _ => ⟨rfl, e0, (by decide : 5 + 0 ≤ _), (by decide : 39 + 0 ≤ _)⟩)
  dsimp only [Pt.U, Pt.locs, Pt.cells, Pt.slots] at X753 l753 y753 z753 st753 hQ753
  subst l753 y753 z753
  obtain ⟨rfl, N753q, e753⟩ := hQ753
  have N753 := Fr.app N0 N753q
  have pre754 : ∀ t, Steps p.tables e below (T753.setTop (mkF m 298 (la6 p0 p1 p2 p3 p4 p5 (4 : Int32) (2 : Int32) r0 r1 r2 r3 b vv) [(.int 1)])) t → Steps p.tables e below (T0.setTop (mkF m 210 (la5 p0 p1 p2 p3 p4 p5 (4 : Int32) (2 : Int32) r0 r1 r2 r3 b) [])) t := by
    intro t kt
    refine pre745 t ?_
    show GO p e below T0 (mkF m 281 (la5 p0 p1 p2 p3 p4 p5 (4 : Int32) (2 : Int32) r0 r1 r2 r3 b) [(.int vv)]) _
    refine XS.istore X0.here hx rfl (hb hby at_281) rfl (l' := (la6 p0 p1 p2 p3 p4 p5 (4 : Int32) (2 : Int32) r0 r1 r2 r3 b vv)) rfl ?_
    show GO p e below T0 (mkF m 283 (la6 p0 p1 p2 p3 p4 p5 (4 : Int32) (2 : Int32) r0 r1 r2 r3 b vv) []) _
    refine XS.aload X0.here hx rfl (hb hby at_283) rfl rfl ?_
    show GO p e below T0 (mkF m 285 (la6 p0 p1 p2 p3 p4 p5 (4 : Int32) (2 : Int32) r0 r1 r2 r3 b vv) [(.ref b)]) _
    refine st753.trans ?_
    show GO p e below T753 (mkF m 288 (la6 p0 p1 p2 p3 p4 p5 (4 : Int32) (2 : Int32) r0 r1 r2 r3 b vv) [(.int (own_any [(nar .boolean r2), (nar .boolean r3)]))]) _
    refine XS.iload X753.here hx rfl (hb hby at_288) rfl ?_
    show GO p e below T753 (mkF m 290 (la6 p0 p1 p2 p3 p4 p5 (4 : Int32) (2 : Int32) r0 r1 r2 r3 b vv) [(.int vv), (.int (own_any [(nar .boolean r2), (nar .boolean r3)]))]) _
    refine XS.icmpNo X753.here hx rfl (hb hby at_290) rfl (teq ((by simp only [hvv, hb0, hb1, hb2, hb3]) : (own_any [(nar .boolean r2), (nar .boolean r3)]) = vv)).2 ?_
    show GO p e below T753 (mkF m 293 (la6 p0 p1 p2 p3 p4 p5 (4 : Int32) (2 : Int32) r0 r1 r2 r3 b vv) []) _
    refine XS.iconst X753.here hx rfl (hb hby at_293) ?_
    show GO p e below T753 (mkF m 294 (la6 p0 p1 p2 p3 p4 p5 (4 : Int32) (2 : Int32) r0 r1 r2 r3 b vv) [(.int 1)]) _
    refine XS.goto X753.here hx rfl (pc0 := 294) (pc' := 298) rfl (hb hby at_294) (by decide) (by decide) ?_
    exact kt
  exact ⟨vv, T753, h0, _, X753.mono (by decide) (by decide), e753, N753, fun t kt => pre754 t kt⟩
set_option maxRecDepth 65536 in
set_option maxHeartbeats 40000000 in
theorem tail_4_3 {p : Program} {l : Launch} {e : Env} {s : State} {m : MethodId} {args : Array Value} {below : List Frame} {meth : Method} {c : Code} {T0 : State} {locs : List Loc} {Z : State} {a0 : Array Value} (p0 : Int32) (p1 : Int32) (p2 : Int32) (p3 : Int32) (p4 : Int32) (p5 : Int32) (r0 : Int32) (r1 : Int32) (r2 : Int32) (r3 : Int32) (b : Addr) (t3 : Addr) (k3 : ClassId) {h0 : Heap} {n0 : Nat}
    (X0 : Stand p l e room_1 s m args below meth c T0 locs 5 39) (hx : p.tables.exec = Jvm.exec) (hZ : Z.Warmed39 s.vm) (hw : ∀ d ∈ tables_1, d.before a0 Z = true) (hby : c.code = code) (hml : c.maxLocals = 14) (hown : s.vm.findClass "com/example/occupancy/occupancy/loading/BlockHoldsRearPinLaw" = some m.cls) (e0 : T0.heap = h0) (N0 : Fr n0 locs) (Z0 : n0 ≤ h0.size) (E1 : Exa Z h0 b kS0) (Fh : Fld Z h0 b kS0 "head" "I" (.int 3)) (Fs : Fld Z h0 b kS0 "size" "I" (.int 1)) (F3 : Fld Z h0 b kS0 "rears" "[Z" (.ref t3)) (V3 : Arv Z h0 t3 k3 .boolean (8 : Int32) [(.int (nar .boolean r0)), (.int (nar .boolean r1)), (.int (nar .boolean r2)), (.int (nar .boolean r3)), (.int 0), (.int 0), (.int 0), (.int 0)] (.int 0)) (hb0 : nar .boolean r0 = r0) (hb1 : nar .boolean r1 = r1) (hb2 : nar .boolean r2 = r2) (hb3 : nar .boolean r3 = r3) :
    ∃ vv : Int32, ∃ (T' : State) (h' : Heap) (locs' : List Loc), Stand p l e room_1 s m args below meth c T' locs' 5 39 ∧ T'.heap = h' ∧ Fr n0 locs' ∧
      ∀ target, Steps p.tables e below (T'.setTop (mkF m 298 (la6 p0 p1 p2 p3 p4 p5 (4 : Int32) (3 : Int32) r0 r1 r2 r3 b vv) [(.int 1)])) target → Steps p.tables e below (T0.setTop (mkF m 210 (la5 p0 p1 p2 p3 p4 p5 (4 : Int32) (3 : Int32) r0 r1 r2 r3 b) [])) target := by
  have pre0 : ∀ t, Steps p.tables e below (T0.setTop (mkF m 210 (la5 p0 p1 p2 p3 p4 p5 (4 : Int32) (3 : Int32) r0 r1 r2 r3 b) [])) t → Steps p.tables e below (T0.setTop (mkF m 210 (la5 p0 p1 p2 p3 p4 p5 (4 : Int32) (3 : Int32) r0 r1 r2 r3 b) [])) t := fun _ k => k
  have lt_E1 := ltA E1.lt
  have lt_Fh := ltA Fh.lt
  have lt_Fs := ltA Fs.lt
  have lt_F3 := ltA F3.lt
  have lt_V3 := ltA V3.lt
  obtain ⟨vv, hvv, pre755⟩ : ∃ vv : Int32, (vv = own_any [r3]) ∧ ∀ t, Steps p.tables e below (T0.setTop (mkF m 281 (la5 p0 p1 p2 p3 p4 p5 (4 : Int32) (3 : Int32) r0 r1 r2 r3 b) [(.int vv)])) t → Steps p.tables e below (T0.setTop (mkF m 210 (la5 p0 p1 p2 p3 p4 p5 (4 : Int32) (3 : Int32) r0 r1 r2 r3 b) [])) t := by
    have pre756 : ∀ t, Steps p.tables e below (T0.setTop (mkF m 273 (la5 p0 p1 p2 p3 p4 p5 (4 : Int32) (3 : Int32) r0 r1 r2 r3 b) [(.int r3)])) t → Steps p.tables e below (T0.setTop (mkF m 210 (la5 p0 p1 p2 p3 p4 p5 (4 : Int32) (3 : Int32) r0 r1 r2 r3 b) [])) t := by
      intro t kt
      refine pre0 t ?_
      show GO p e below T0 (mkF m 210 (la5 p0 p1 p2 p3 p4 p5 (4 : Int32) (3 : Int32) r0 r1 r2 r3 b) []) _
      refine XS.iload X0.here hx rfl (hb hby at_210) rfl ?_
      show GO p e below T0 (mkF m 212 (la5 p0 p1 p2 p3 p4 p5 (4 : Int32) (3 : Int32) r0 r1 r2 r3 b) [(.int 4)]) _
      refine XS.ifNo X0.here hx rfl (hb hby at_212) rfl ((if0 _ _).trans (tlt ((by decide) : (0 : Int32) < (4 : Int32))).2.2.2) ?_
      show GO p e below T0 (mkF m 215 (la5 p0 p1 p2 p3 p4 p5 (4 : Int32) (3 : Int32) r0 r1 r2 r3 b) []) _
      refine XS.iload X0.here hx rfl (hb hby at_215) rfl ?_
      show GO p e below T0 (mkF m 217 (la5 p0 p1 p2 p3 p4 p5 (4 : Int32) (3 : Int32) r0 r1 r2 r3 b) [(.int 3)]) _
      refine XS.ifYes X0.here hx rfl (pc0 := 217) (pc' := 225) rfl (hb hby at_217) rfl ((if0 _ _).trans (tlt ((by decide) : (0 : Int32) < (3 : Int32))).2.2.1) (by decide) (by decide) ?_
      show GO p e below T0 (mkF m 225 (la5 p0 p1 p2 p3 p4 p5 (4 : Int32) (3 : Int32) r0 r1 r2 r3 b) []) _
      refine XS.iload X0.here hx rfl (hb hby at_225) rfl ?_
      show GO p e below T0 (mkF m 227 (la5 p0 p1 p2 p3 p4 p5 (4 : Int32) (3 : Int32) r0 r1 r2 r3 b) [(.int 4)]) _
      refine XS.iconst X0.here hx rfl (hb hby at_227) ?_
      show GO p e below T0 (mkF m 228 (la5 p0 p1 p2 p3 p4 p5 (4 : Int32) (3 : Int32) r0 r1 r2 r3 b) [(.int 1), (.int 4)]) _
      refine XS.icmpNo X0.here hx rfl (hb hby at_228) rfl (tlt ((by decide) : (1 : Int32) < (4 : Int32))).2.2.2 ?_
      show GO p e below T0 (mkF m 231 (la5 p0 p1 p2 p3 p4 p5 (4 : Int32) (3 : Int32) r0 r1 r2 r3 b) []) _
      refine XS.iload X0.here hx rfl (hb hby at_231) rfl ?_
      show GO p e below T0 (mkF m 233 (la5 p0 p1 p2 p3 p4 p5 (4 : Int32) (3 : Int32) r0 r1 r2 r3 b) [(.int 3)]) _
      refine XS.iconst X0.here hx rfl (hb hby at_233) ?_
      show GO p e below T0 (mkF m 234 (la5 p0 p1 p2 p3 p4 p5 (4 : Int32) (3 : Int32) r0 r1 r2 r3 b) [(.int 1), (.int 3)]) _
      refine XS.icmpYes X0.here hx rfl (pc0 := 234) (pc' := 242) rfl (hb hby at_234) rfl (tlt ((by decide) : (1 : Int32) < (3 : Int32))).2.2.1 (by decide) (by decide) ?_
      show GO p e below T0 (mkF m 242 (la5 p0 p1 p2 p3 p4 p5 (4 : Int32) (3 : Int32) r0 r1 r2 r3 b) []) _
      refine XS.iload X0.here hx rfl (hb hby at_242) rfl ?_
      show GO p e below T0 (mkF m 244 (la5 p0 p1 p2 p3 p4 p5 (4 : Int32) (3 : Int32) r0 r1 r2 r3 b) [(.int 4)]) _
      refine XS.iconst X0.here hx rfl (hb hby at_244) ?_
      show GO p e below T0 (mkF m 245 (la5 p0 p1 p2 p3 p4 p5 (4 : Int32) (3 : Int32) r0 r1 r2 r3 b) [(.int 2), (.int 4)]) _
      refine XS.icmpNo X0.here hx rfl (hb hby at_245) rfl (tlt ((by decide) : (2 : Int32) < (4 : Int32))).2.2.2 ?_
      show GO p e below T0 (mkF m 248 (la5 p0 p1 p2 p3 p4 p5 (4 : Int32) (3 : Int32) r0 r1 r2 r3 b) []) _
      refine XS.iload X0.here hx rfl (hb hby at_248) rfl ?_
      show GO p e below T0 (mkF m 250 (la5 p0 p1 p2 p3 p4 p5 (4 : Int32) (3 : Int32) r0 r1 r2 r3 b) [(.int 3)]) _
      refine XS.iconst X0.here hx rfl (hb hby at_250) ?_
      show GO p e below T0 (mkF m 251 (la5 p0 p1 p2 p3 p4 p5 (4 : Int32) (3 : Int32) r0 r1 r2 r3 b) [(.int 2), (.int 3)]) _
      refine XS.icmpYes X0.here hx rfl (pc0 := 251) (pc' := 259) rfl (hb hby at_251) rfl (tlt ((by decide) : (2 : Int32) < (3 : Int32))).2.2.1 (by decide) (by decide) ?_
      show GO p e below T0 (mkF m 259 (la5 p0 p1 p2 p3 p4 p5 (4 : Int32) (3 : Int32) r0 r1 r2 r3 b) []) _
      refine XS.iload X0.here hx rfl (hb hby at_259) rfl ?_
      show GO p e below T0 (mkF m 261 (la5 p0 p1 p2 p3 p4 p5 (4 : Int32) (3 : Int32) r0 r1 r2 r3 b) [(.int 4)]) _
      refine XS.iconst X0.here hx rfl (hb hby at_261) ?_
      show GO p e below T0 (mkF m 262 (la5 p0 p1 p2 p3 p4 p5 (4 : Int32) (3 : Int32) r0 r1 r2 r3 b) [(.int 3), (.int 4)]) _
      refine XS.icmpNo X0.here hx rfl (hb hby at_262) rfl (tlt ((by decide) : (3 : Int32) < (4 : Int32))).2.2.2 ?_
      show GO p e below T0 (mkF m 265 (la5 p0 p1 p2 p3 p4 p5 (4 : Int32) (3 : Int32) r0 r1 r2 r3 b) []) _
      refine XS.iload X0.here hx rfl (hb hby at_265) rfl ?_
      show GO p e below T0 (mkF m 267 (la5 p0 p1 p2 p3 p4 p5 (4 : Int32) (3 : Int32) r0 r1 r2 r3 b) [(.int 3)]) _
      refine XS.iconst X0.here hx rfl (hb hby at_267) ?_
      show GO p e below T0 (mkF m 268 (la5 p0 p1 p2 p3 p4 p5 (4 : Int32) (3 : Int32) r0 r1 r2 r3 b) [(.int 3), (.int 3)]) _
      refine XS.icmpNo X0.here hx rfl (hb hby at_268) rfl (flt ((by decide) : ¬ ((3 : Int32) < (3 : Int32)))).2.2.1 ?_
      show GO p e below T0 (mkF m 271 (la5 p0 p1 p2 p3 p4 p5 (4 : Int32) (3 : Int32) r0 r1 r2 r3 b) []) _
      refine XS.iload X0.here hx rfl (hb hby at_271) rfl ?_
      exact kt
    by_cases hb757 : r3 = (0 : Int32)
    · have pre758 : ∀ t, Steps p.tables e below (T0.setTop (mkF m 281 (la5 p0 p1 p2 p3 p4 p5 (4 : Int32) (3 : Int32) r0 r1 r2 r3 b) [(.int 0)])) t → Steps p.tables e below (T0.setTop (mkF m 210 (la5 p0 p1 p2 p3 p4 p5 (4 : Int32) (3 : Int32) r0 r1 r2 r3 b) [])) t := by
        intro t kt
        refine pre756 t ?_
        show GO p e below T0 (mkF m 273 (la5 p0 p1 p2 p3 p4 p5 (4 : Int32) (3 : Int32) r0 r1 r2 r3 b) [(.int r3)]) _
        refine XS.ifYes X0.here hx rfl (pc0 := 273) (pc' := 280) rfl (hb hby at_273) rfl ((if0 _ _).trans (teq (hb757 : r3 = (0 : Int32))).1) (by decide) (by decide) ?_
        show GO p e below T0 (mkF m 280 (la5 p0 p1 p2 p3 p4 p5 (4 : Int32) (3 : Int32) r0 r1 r2 r3 b) []) _
        refine XS.iconst X0.here hx rfl (hb hby at_280) ?_
        exact kt
      exact ⟨(0 : Int32), (by simp [own_any, hb757]), fun t kt => pre758 t kt⟩
    · have pre759 : ∀ t, Steps p.tables e below (T0.setTop (mkF m 281 (la5 p0 p1 p2 p3 p4 p5 (4 : Int32) (3 : Int32) r0 r1 r2 r3 b) [(.int 1)])) t → Steps p.tables e below (T0.setTop (mkF m 210 (la5 p0 p1 p2 p3 p4 p5 (4 : Int32) (3 : Int32) r0 r1 r2 r3 b) [])) t := by
        intro t kt
        refine pre756 t ?_
        show GO p e below T0 (mkF m 273 (la5 p0 p1 p2 p3 p4 p5 (4 : Int32) (3 : Int32) r0 r1 r2 r3 b) [(.int r3)]) _
        refine XS.ifNo X0.here hx rfl (hb hby at_273) rfl ((if0 _ _).trans (feq (hb757 : ¬ (r3 = (0 : Int32)))).1) ?_
        show GO p e below T0 (mkF m 276 (la5 p0 p1 p2 p3 p4 p5 (4 : Int32) (3 : Int32) r0 r1 r2 r3 b) []) _
        refine XS.iconst X0.here hx rfl (hb hby at_276) ?_
        show GO p e below T0 (mkF m 277 (la5 p0 p1 p2 p3 p4 p5 (4 : Int32) (3 : Int32) r0 r1 r2 r3 b) [(.int 1)]) _
        refine XS.goto X0.here hx rfl (pc0 := 277) (pc' := 281) rfl (hb hby at_277) (by decide) (by decide) ?_
        exact kt
      exact ⟨(1 : Int32), (by simp [own_any, hb757]), fun t kt => pre759 t kt⟩
  -- pc 285: Block.holdsRear by rm_hold3_1
  obtain ⟨cq760, kq760, q760a, q760b, q760c⟩ := isOf hZ e0 E1
  obtain ⟨_, _, ⟨T760, L760, k760, n760⟩, -, X760, ⟨Lc760, hQ760, l760, y760, z760⟩, st760⟩ := X0.virtualBack hx (y := (⟨kS0, "holdsRear", "()Z"⟩ : MethodName)) (z := (⟨kS0, "holdsRear", "()Z"⟩ : MethodName)) hown (mvT hZ (wd hw 25 rfl)) (mvT hZ (wd hw 26 rfl)) (notFace_of_selects (args := #[]) (mvT hZ (wd hw 28 rfl))) (mvT hZ (wd hw 28 rfl)) (mvT hZ (wd hw 27 rfl)) (by decide) (backOf (W := 0) (rm_hold3_1 l Z a0 hw [] b t3 k3 ([(.int (nar .boolean r0)), (.int (nar .boolean r1)), (.int (nar .boolean r2)), (.int (nar .boolean r3)), (.int 0), (.int 0), (.int 0), (.int 0)]) (nar .boolean r3) h0 n0 (by omega) Fh Fs F3 V3 rfl) hZ (wd hw 29 rfl) (wd hw 7 rfl) (by decide) (by decide)) q760a q760c (g := (mkF m 285 (la6 p0 p1 p2 p3 p4 p5 (4 : Int32) (3 : Int32) r0 r1 r2 r3 b vv) [(.ref b)])) rfl (by rw [hml]; rfl) (Steps.refl _) (argsL := []) (rest := []) (lenOf pd_0 rfl) rfl (by show 2 * 0 + _ ≤ _; exact Nat.le_of_eq rfl) (hb hby at_285) (fun _ _ => ⟨rfl, e0, (by decide : 5 + 0 ≤ _), (by decide : 39 + 0 ≤ _)⟩)
  dsimp only [Pt.U, Pt.locs, Pt.cells, Pt.slots] at X760 l760 y760 z760 st760 hQ760
  subst l760 y760 z760
  obtain ⟨rfl, N760q, e760⟩ := hQ760
  have N760 := Fr.app N0 N760q
  have pre761 : ∀ t, Steps p.tables e below (T760.setTop (mkF m 298 (la6 p0 p1 p2 p3 p4 p5 (4 : Int32) (3 : Int32) r0 r1 r2 r3 b vv) [(.int 1)])) t → Steps p.tables e below (T0.setTop (mkF m 210 (la5 p0 p1 p2 p3 p4 p5 (4 : Int32) (3 : Int32) r0 r1 r2 r3 b) [])) t := by
    intro t kt
    refine pre755 t ?_
    show GO p e below T0 (mkF m 281 (la5 p0 p1 p2 p3 p4 p5 (4 : Int32) (3 : Int32) r0 r1 r2 r3 b) [(.int vv)]) _
    refine XS.istore X0.here hx rfl (hb hby at_281) rfl (l' := (la6 p0 p1 p2 p3 p4 p5 (4 : Int32) (3 : Int32) r0 r1 r2 r3 b vv)) rfl ?_
    show GO p e below T0 (mkF m 283 (la6 p0 p1 p2 p3 p4 p5 (4 : Int32) (3 : Int32) r0 r1 r2 r3 b vv) []) _
    refine XS.aload X0.here hx rfl (hb hby at_283) rfl rfl ?_
    show GO p e below T0 (mkF m 285 (la6 p0 p1 p2 p3 p4 p5 (4 : Int32) (3 : Int32) r0 r1 r2 r3 b vv) [(.ref b)]) _
    refine st760.trans ?_
    show GO p e below T760 (mkF m 288 (la6 p0 p1 p2 p3 p4 p5 (4 : Int32) (3 : Int32) r0 r1 r2 r3 b vv) [(.int (own_any [(nar .boolean r3)]))]) _
    refine XS.iload X760.here hx rfl (hb hby at_288) rfl ?_
    show GO p e below T760 (mkF m 290 (la6 p0 p1 p2 p3 p4 p5 (4 : Int32) (3 : Int32) r0 r1 r2 r3 b vv) [(.int vv), (.int (own_any [(nar .boolean r3)]))]) _
    refine XS.icmpNo X760.here hx rfl (hb hby at_290) rfl (teq ((by simp only [hvv, hb0, hb1, hb2, hb3]) : (own_any [(nar .boolean r3)]) = vv)).2 ?_
    show GO p e below T760 (mkF m 293 (la6 p0 p1 p2 p3 p4 p5 (4 : Int32) (3 : Int32) r0 r1 r2 r3 b vv) []) _
    refine XS.iconst X760.here hx rfl (hb hby at_293) ?_
    show GO p e below T760 (mkF m 294 (la6 p0 p1 p2 p3 p4 p5 (4 : Int32) (3 : Int32) r0 r1 r2 r3 b vv) [(.int 1)]) _
    refine XS.goto X760.here hx rfl (pc0 := 294) (pc' := 298) rfl (hb hby at_294) (by decide) (by decide) ?_
    exact kt
  exact ⟨vv, T760, h0, _, X760.mono (by decide) (by decide), e760, N760, fun t kt => pre761 t kt⟩
set_option maxRecDepth 65536 in
set_option maxHeartbeats 40000000 in
theorem seg_0 {p : Program} {l : Launch} {e : Env} {s : State} {m : MethodId} {args : Array Value} {below : List Frame} {meth : Method} {c : Code} {T0 : State} {locs : List Loc} {Z : State} {a0 : Array Value} (p0 : Int32) (p1 : Int32) (p2 : Int32) (p3 : Int32) (p4 : Int32) (p5 : Int32) (kk : Int32) (r0 : Int32) (r1 : Int32) (r2 : Int32) (r3 : Int32) (b : Addr) (t0 : Addr) (t1 : Addr) (t2 : Addr) (t3 : Addr) (k0 : ClassId) (k1 : ClassId) (k2 : ClassId) (k3 : ClassId) {h0 : Heap} {n0 : Nat}
    (X0 : Stand p l e room_1 s m args below meth c T0 locs 5 39) (hx : p.tables.exec = Jvm.exec) (hZ : Z.Warmed39 s.vm) (hw : ∀ d ∈ tables_1, d.before a0 Z = true) (hby : c.code = code) (hml : c.maxLocals = 14) (hown : s.vm.findClass "com/example/occupancy/occupancy/loading/BlockHoldsRearPinLaw" = some m.cls) (e0 : T0.heap = h0) (N0 : Fr n0 locs) (Z0 : n0 ≤ h0.size) (E1 : Exa Z h0 b kS0) (Fh : Fld Z h0 b kS0 "head" "I" (.int 0)) (Fs : Fld Z h0 b kS0 "size" "I" (.int 0)) (Fc : Fld Z h0 b kS0 "content" "D" (.double (0 : UInt64))) (F0 : Fld Z h0 b kS0 "agents" "[I" (.ref t0)) (V0 : Arv Z h0 t0 k0 .int (8 : Int32) [(.int 0), (.int 0), (.int 0), (.int 0), (.int 0), (.int 0), (.int 0), (.int 0)] (.int 0)) (F1 : Fld Z h0 b kS0 "legs" "[I" (.ref t1)) (V1 : Arv Z h0 t1 k1 .int (8 : Int32) [(.int 0), (.int 0), (.int 0), (.int 0), (.int 0), (.int 0), (.int 0), (.int 0)] (.int 0)) (F2 : Fld Z h0 b kS0 "amounts" "[D" (.ref t2)) (V2 : Arv Z h0 t2 k2 .double (8 : Int32) [(.double (0 : UInt64)), (.double (0 : UInt64)), (.double (0 : UInt64)), (.double (0 : UInt64)), (.double (0 : UInt64)), (.double (0 : UInt64)), (.double (0 : UInt64)), (.double (0 : UInt64))] (.double (0 : UInt64))) (F3 : Fld Z h0 b kS0 "rears" "[Z" (.ref t3)) (V3 : Arv Z h0 t3 k3 .boolean (8 : Int32) [(.int 0), (.int 0), (.int 0), (.int 0), (.int 0), (.int 0), (.int 0), (.int 0)] (.int 0)) (o1 : LT.lt (α := Nat) b t0) (o2 : LT.lt (α := Nat) t0 t1) (o3 : LT.lt (α := Nat) t1 t2) (o4 : LT.lt (α := Nat) t2 t3) (g1 : n0 ≤ b) (hk : kk = (0 : Int32)) (hb0 : nar .boolean r0 = r0) (hb1 : nar .boolean r1 = r1) (hb2 : nar .boolean r2 = r2) (hb3 : nar .boolean r3 = r3) :
    ∃ vv : Int32, ∃ (T' : State) (h' : Heap) (locs' : List Loc), Stand p l e room_1 s m args below meth c T' locs' 5 39 ∧ T'.heap = h' ∧ Fr n0 locs' ∧
      ∀ target, Steps p.tables e below (T'.setTop (mkF m 298 #[.val (.int p0), .val (.int p1), .val (.int p2), .val (.int p3), .val (.int p4), .val (.int p5), .val (.int 0), .val (.int kk), .val (.int r0), .val (.int r1), .val (.int r2), .val (.int r3), .val (.ref b), .val (.int vv)] [(.int 1)])) target → Steps p.tables e below (T0.setTop (mkF m 80 (la5 p0 p1 p2 p3 p4 p5 (0 : Int32) kk r0 r1 r2 r3 b) [])) target := by
  have pre0 : ∀ t, Steps p.tables e below (T0.setTop (mkF m 80 (la5 p0 p1 p2 p3 p4 p5 (0 : Int32) kk r0 r1 r2 r3 b) [])) t → Steps p.tables e below (T0.setTop (mkF m 80 (la5 p0 p1 p2 p3 p4 p5 (0 : Int32) kk r0 r1 r2 r3 b) [])) t := fun _ k => k
  have lt_E1 := ltA E1.lt
  have lt_Fh := ltA Fh.lt
  have lt_Fs := ltA Fs.lt
  have lt_Fc := ltA Fc.lt
  have lt_F0 := ltA F0.lt
  have lt_V0 := ltA V0.lt
  have lt_F1 := ltA F1.lt
  have lt_V1 := ltA V1.lt
  have lt_F2 := ltA F2.lt
  have lt_V2 := ltA V2.lt
  have lt_F3 := ltA F3.lt
  have lt_V3 := ltA V3.lt
  have pre762 : ∀ t, Steps p.tables e below (T0.setTop (mkF m 153 (la5 p0 p1 p2 p3 p4 p5 (0 : Int32) kk r0 r1 r2 r3 b) [])) t → Steps p.tables e below (T0.setTop (mkF m 80 (la5 p0 p1 p2 p3 p4 p5 (0 : Int32) kk r0 r1 r2 r3 b) [])) t := by
    intro t kt
    refine pre0 t ?_
    show GO p e below T0 (mkF m 80 (la5 p0 p1 p2 p3 p4 p5 (0 : Int32) kk r0 r1 r2 r3 b) []) _
    refine XS.iload X0.here hx rfl (hb hby at_80) rfl ?_
    show GO p e below T0 (mkF m 82 (la5 p0 p1 p2 p3 p4 p5 (0 : Int32) kk r0 r1 r2 r3 b) [(.int 0)]) _
    refine XS.ifYes X0.here hx rfl (pc0 := 82) (pc' := 96) rfl (hb hby at_82) rfl ((if0 _ _).trans (flt ((by decide) : ¬ ((0 : Int32) < (0 : Int32)))).2.2.2) (by decide) (by decide) ?_
    show GO p e below T0 (mkF m 96 (la5 p0 p1 p2 p3 p4 p5 (0 : Int32) kk r0 r1 r2 r3 b) []) _
    refine XS.iload X0.here hx rfl (hb hby at_96) rfl ?_
    show GO p e below T0 (mkF m 98 (la5 p0 p1 p2 p3 p4 p5 (0 : Int32) kk r0 r1 r2 r3 b) [(.int 0)]) _
    refine XS.iconst X0.here hx rfl (hb hby at_98) ?_
    show GO p e below T0 (mkF m 99 (la5 p0 p1 p2 p3 p4 p5 (0 : Int32) kk r0 r1 r2 r3 b) [(.int 1), (.int 0)]) _
    refine XS.icmpYes X0.here hx rfl (pc0 := 99) (pc' := 115) rfl (hb hby at_99) rfl (flt ((by decide) : ¬ ((1 : Int32) < (0 : Int32)))).2.2.2 (by decide) (by decide) ?_
    show GO p e below T0 (mkF m 115 (la5 p0 p1 p2 p3 p4 p5 (0 : Int32) kk r0 r1 r2 r3 b) []) _
    refine XS.iload X0.here hx rfl (hb hby at_115) rfl ?_
    show GO p e below T0 (mkF m 117 (la5 p0 p1 p2 p3 p4 p5 (0 : Int32) kk r0 r1 r2 r3 b) [(.int 0)]) _
    refine XS.iconst X0.here hx rfl (hb hby at_117) ?_
    show GO p e below T0 (mkF m 118 (la5 p0 p1 p2 p3 p4 p5 (0 : Int32) kk r0 r1 r2 r3 b) [(.int 2), (.int 0)]) _
    refine XS.icmpYes X0.here hx rfl (pc0 := 118) (pc' := 134) rfl (hb hby at_118) rfl (flt ((by decide) : ¬ ((2 : Int32) < (0 : Int32)))).2.2.2 (by decide) (by decide) ?_
    show GO p e below T0 (mkF m 134 (la5 p0 p1 p2 p3 p4 p5 (0 : Int32) kk r0 r1 r2 r3 b) []) _
    refine XS.iload X0.here hx rfl (hb hby at_134) rfl ?_
    show GO p e below T0 (mkF m 136 (la5 p0 p1 p2 p3 p4 p5 (0 : Int32) kk r0 r1 r2 r3 b) [(.int 0)]) _
    refine XS.iconst X0.here hx rfl (hb hby at_136) ?_
    show GO p e below T0 (mkF m 137 (la5 p0 p1 p2 p3 p4 p5 (0 : Int32) kk r0 r1 r2 r3 b) [(.int 3), (.int 0)]) _
    refine XS.icmpYes X0.here hx rfl (pc0 := 137) (pc' := 153) rfl (hb hby at_137) rfl (flt ((by decide) : ¬ ((3 : Int32) < (0 : Int32)))).2.2.2 (by decide) (by decide) ?_
    exact kt
  rcases hk with rfl
  · obtain ⟨vv_763, T763, h763, L763, X763, e763, N763, st763⟩ := tail_0_0 p0 p1 p2 p3 p4 p5 r0 r1 r2 r3 b t3 k3 X0 hx hZ hw hby hml hown e0 N0 (by omega) E1 Fh Fs F3 V3 (by first | assumption | decide | omega | exact neN (by omega)) (by first | assumption | decide | omega | exact neN (by omega)) (by first | assumption | decide | omega | exact neN (by omega)) (by first | assumption | decide | omega | exact neN (by omega))
    have pre764 : ∀ t, Steps p.tables e below (T763.setTop (mkF m 298 (la6 p0 p1 p2 p3 p4 p5 (0 : Int32) (0 : Int32) r0 r1 r2 r3 b vv_763) [(.int 1)])) t → Steps p.tables e below (T0.setTop (mkF m 80 (la5 p0 p1 p2 p3 p4 p5 (0 : Int32) (0 : Int32) r0 r1 r2 r3 b) [])) t := by
      intro t kt
      refine pre762 t ?_
      show GO p e below T0 (mkF m 153 (la5 p0 p1 p2 p3 p4 p5 (0 : Int32) (0 : Int32) r0 r1 r2 r3 b) []) _
      refine XS.iload X0.here hx rfl (hb hby at_153) rfl ?_
      show GO p e below T0 (mkF m 155 (la5 p0 p1 p2 p3 p4 p5 (0 : Int32) (0 : Int32) r0 r1 r2 r3 b) [(.int 0)]) _
      refine XS.ifYes X0.here hx rfl (pc0 := 155) (pc' := 164) rfl (hb hby at_155) rfl ((if0 _ _).trans (flt ((by decide) : ¬ ((0 : Int32) < (0 : Int32)))).2.2.2) (by decide) (by decide) ?_
      show GO p e below T0 (mkF m 164 (la5 p0 p1 p2 p3 p4 p5 (0 : Int32) (0 : Int32) r0 r1 r2 r3 b) []) _
      refine XS.iload X0.here hx rfl (hb hby at_164) rfl ?_
      show GO p e below T0 (mkF m 166 (la5 p0 p1 p2 p3 p4 p5 (0 : Int32) (0 : Int32) r0 r1 r2 r3 b) [(.int 0)]) _
      refine XS.iconst X0.here hx rfl (hb hby at_166) ?_
      show GO p e below T0 (mkF m 167 (la5 p0 p1 p2 p3 p4 p5 (0 : Int32) (0 : Int32) r0 r1 r2 r3 b) [(.int 1), (.int 0)]) _
      refine XS.icmpYes X0.here hx rfl (pc0 := 167) (pc' := 176) rfl (hb hby at_167) rfl (flt ((by decide) : ¬ ((1 : Int32) < (0 : Int32)))).2.2.2 (by decide) (by decide) ?_
      show GO p e below T0 (mkF m 176 (la5 p0 p1 p2 p3 p4 p5 (0 : Int32) (0 : Int32) r0 r1 r2 r3 b) []) _
      refine XS.iload X0.here hx rfl (hb hby at_176) rfl ?_
      show GO p e below T0 (mkF m 178 (la5 p0 p1 p2 p3 p4 p5 (0 : Int32) (0 : Int32) r0 r1 r2 r3 b) [(.int 0)]) _
      refine XS.iconst X0.here hx rfl (hb hby at_178) ?_
      show GO p e below T0 (mkF m 179 (la5 p0 p1 p2 p3 p4 p5 (0 : Int32) (0 : Int32) r0 r1 r2 r3 b) [(.int 2), (.int 0)]) _
      refine XS.icmpYes X0.here hx rfl (pc0 := 179) (pc' := 188) rfl (hb hby at_179) rfl (flt ((by decide) : ¬ ((2 : Int32) < (0 : Int32)))).2.2.2 (by decide) (by decide) ?_
      show GO p e below T0 (mkF m 188 (la5 p0 p1 p2 p3 p4 p5 (0 : Int32) (0 : Int32) r0 r1 r2 r3 b) []) _
      refine XS.iload X0.here hx rfl (hb hby at_188) rfl ?_
      show GO p e below T0 (mkF m 190 (la5 p0 p1 p2 p3 p4 p5 (0 : Int32) (0 : Int32) r0 r1 r2 r3 b) [(.int 0)]) _
      refine XS.iload X0.here hx rfl (hb hby at_190) rfl ?_
      show GO p e below T0 (mkF m 192 (la5 p0 p1 p2 p3 p4 p5 (0 : Int32) (0 : Int32) r0 r1 r2 r3 b) [(.int 0), (.int 0)]) _
      refine XS.icmpYes X0.here hx rfl (pc0 := 192) (pc' := 210) rfl (hb hby at_192) rfl (flt ((by decide) : ¬ ((0 : Int32) < (0 : Int32)))).2.1 (by decide) (by decide) ?_
      show GO p e below T0 (mkF m 210 (la5 p0 p1 p2 p3 p4 p5 (0 : Int32) (0 : Int32) r0 r1 r2 r3 b) []) _
      refine st763 _ ?_
      exact kt
    exact ⟨vv_763, T763, h763, _, X763.mono (by decide) (by decide), e763, N763, fun t kt => pre764 t kt⟩
set_option maxRecDepth 65536 in
set_option maxHeartbeats 40000000 in
theorem seg_1 {p : Program} {l : Launch} {e : Env} {s : State} {m : MethodId} {args : Array Value} {below : List Frame} {meth : Method} {c : Code} {T0 : State} {locs : List Loc} {Z : State} {a0 : Array Value} (p0 : Int32) (p1 : Int32) (p2 : Int32) (p3 : Int32) (p4 : Int32) (p5 : Int32) (kk : Int32) (r0 : Int32) (r1 : Int32) (r2 : Int32) (r3 : Int32) (b : Addr) (t0 : Addr) (t1 : Addr) (t2 : Addr) (t3 : Addr) (k0 : ClassId) (k1 : ClassId) (k2 : ClassId) (k3 : ClassId) {h0 : Heap} {n0 : Nat}
    (X0 : Stand p l e room_1 s m args below meth c T0 locs 5 39) (hx : p.tables.exec = Jvm.exec) (hZ : Z.Warmed39 s.vm) (hw : ∀ d ∈ tables_1, d.before a0 Z = true) (hby : c.code = code) (hml : c.maxLocals = 14) (hown : s.vm.findClass "com/example/occupancy/occupancy/loading/BlockHoldsRearPinLaw" = some m.cls) (e0 : T0.heap = h0) (N0 : Fr n0 locs) (Z0 : n0 ≤ h0.size) (E1 : Exa Z h0 b kS0) (Fh : Fld Z h0 b kS0 "head" "I" (.int 0)) (Fs : Fld Z h0 b kS0 "size" "I" (.int 0)) (Fc : Fld Z h0 b kS0 "content" "D" (.double (0 : UInt64))) (F0 : Fld Z h0 b kS0 "agents" "[I" (.ref t0)) (V0 : Arv Z h0 t0 k0 .int (8 : Int32) [(.int 0), (.int 0), (.int 0), (.int 0), (.int 0), (.int 0), (.int 0), (.int 0)] (.int 0)) (F1 : Fld Z h0 b kS0 "legs" "[I" (.ref t1)) (V1 : Arv Z h0 t1 k1 .int (8 : Int32) [(.int 0), (.int 0), (.int 0), (.int 0), (.int 0), (.int 0), (.int 0), (.int 0)] (.int 0)) (F2 : Fld Z h0 b kS0 "amounts" "[D" (.ref t2)) (V2 : Arv Z h0 t2 k2 .double (8 : Int32) [(.double (0 : UInt64)), (.double (0 : UInt64)), (.double (0 : UInt64)), (.double (0 : UInt64)), (.double (0 : UInt64)), (.double (0 : UInt64)), (.double (0 : UInt64)), (.double (0 : UInt64))] (.double (0 : UInt64))) (F3 : Fld Z h0 b kS0 "rears" "[Z" (.ref t3)) (V3 : Arv Z h0 t3 k3 .boolean (8 : Int32) [(.int 0), (.int 0), (.int 0), (.int 0), (.int 0), (.int 0), (.int 0), (.int 0)] (.int 0)) (o1 : LT.lt (α := Nat) b t0) (o2 : LT.lt (α := Nat) t0 t1) (o3 : LT.lt (α := Nat) t1 t2) (o4 : LT.lt (α := Nat) t2 t3) (g1 : n0 ≤ b) (hk : kk = (0 : Int32) ∨ kk = (1 : Int32)) (hb0 : nar .boolean r0 = r0) (hb1 : nar .boolean r1 = r1) (hb2 : nar .boolean r2 = r2) (hb3 : nar .boolean r3 = r3) :
    ∃ vv : Int32, ∃ (T' : State) (h' : Heap) (locs' : List Loc), Stand p l e room_1 s m args below meth c T' locs' 5 39 ∧ T'.heap = h' ∧ Fr n0 locs' ∧
      ∀ target, Steps p.tables e below (T'.setTop (mkF m 298 #[.val (.int p0), .val (.int p1), .val (.int p2), .val (.int p3), .val (.int p4), .val (.int p5), .val (.int 1), .val (.int kk), .val (.int r0), .val (.int r1), .val (.int r2), .val (.int r3), .val (.ref b), .val (.int vv)] [(.int 1)])) target → Steps p.tables e below (T0.setTop (mkF m 80 (la5 p0 p1 p2 p3 p4 p5 (1 : Int32) kk r0 r1 r2 r3 b) [])) target := by
  have pre0 : ∀ t, Steps p.tables e below (T0.setTop (mkF m 80 (la5 p0 p1 p2 p3 p4 p5 (1 : Int32) kk r0 r1 r2 r3 b) [])) t → Steps p.tables e below (T0.setTop (mkF m 80 (la5 p0 p1 p2 p3 p4 p5 (1 : Int32) kk r0 r1 r2 r3 b) [])) t := fun _ k => k
  have lt_E1 := ltA E1.lt
  have lt_Fh := ltA Fh.lt
  have lt_Fs := ltA Fs.lt
  have lt_Fc := ltA Fc.lt
  have lt_F0 := ltA F0.lt
  have lt_V0 := ltA V0.lt
  have lt_F1 := ltA F1.lt
  have lt_V1 := ltA V1.lt
  have lt_F2 := ltA F2.lt
  have lt_V2 := ltA V2.lt
  have lt_F3 := ltA F3.lt
  have lt_V3 := ltA V3.lt
  -- pc 93: Block.add by rm_add0
  obtain ⟨cq765, kq765, q765a, q765b, q765c⟩ := isOf hZ e0 E1
  obtain ⟨_, _, ⟨T765, L765, k765, n765⟩, -, X765, ⟨Lc765, hQ765, l765, y765, z765⟩, st765⟩ := X0.virtualBack hx (y := (⟨kS0, "add", "(IIDZ)V"⟩ : MethodName)) (z := (⟨kS0, "add", "(IIDZ)V"⟩ : MethodName)) hown (mvT hZ (wd hw 32 rfl)) (mvT hZ (wd hw 33 rfl)) (notFace_of_selects (args := #[]) (mvT hZ (wd hw 35 rfl))) (mvT hZ (wd hw 35 rfl)) (mvT hZ (wd hw 34 rfl)) (by decide) (backOf (W := 0) (rm_add0 l Z a0 hw [] b p3 p4 FP.dconst1 r0 (0 : UInt64) t0 k0 ([(.int 0), (.int 0), (.int 0), (.int 0), (.int 0), (.int 0), (.int 0), (.int 0)]) t1 k1 ([(.int 0), (.int 0), (.int 0), (.int 0), (.int 0), (.int 0), (.int 0), (.int 0)]) t2 k2 ([(.double (0 : UInt64)), (.double (0 : UInt64)), (.double (0 : UInt64)), (.double (0 : UInt64)), (.double (0 : UInt64)), (.double (0 : UInt64)), (.double (0 : UInt64)), (.double (0 : UInt64))]) t3 k3 ([(.int 0), (.int 0), (.int 0), (.int 0), (.int 0), (.int 0), (.int 0), (.int 0)]) h0 n0 (by omega) E1 Fh Fs Fc F0 V0 F1 V1 F2 V2 F3 V3 rfl rfl rfl rfl (by first | assumption | decide | omega | exact neN (by omega)) (by first | assumption | decide | omega | exact neN (by omega)) (by first | assumption | decide | omega | exact neN (by omega)) (by first | assumption | decide | omega | exact neN (by omega)) (by first | assumption | decide | omega | exact neN (by omega)) (by unfold Jvm.Free.Fl.NoNaN64; decide +kernel)) hZ (wd hw 36 rfl) (wd hw 7 rfl) (by decide) (by decide)) q765a q765c (g := (mkF m 93 (la5 p0 p1 p2 p3 p4 p5 (1 : Int32) kk r0 r1 r2 r3 b) [(.int r0), (.double FP.dconst1), (.int p4), (.int p3), (.ref b)])) rfl (by rw [hml]; rfl) (Steps.refl _) (argsL := [(.int p3), (.int p4), (.double FP.dconst1), (.int r0)]) (rest := []) (lenOf pd_1 rfl) rfl (by show 2 * 0 + _ ≤ _; exact Nat.le_of_eq rfl) (hb hby at_93) (fun _ _ => ⟨rfl, e0, (by decide : 5 + 0 ≤ _), (by decide : 39 + 0 ≤ _)⟩)
  dsimp only [Pt.U, Pt.locs, Pt.cells, Pt.slots] at X765 l765 y765 z765 st765 hQ765
  subst l765 y765 z765
  obtain ⟨h765, e765⟩ : ∃ z, T765.heap = z := ⟨_, rfl⟩
  rw [e765] at hQ765
  obtain ⟨rfl, N765q, K765, p765_0, p765_1, p765_2, p765_3, p765_4, p765_5, p765_6, p765_7, p765_8, p765_9, p765_10, p765_11⟩ := hQ765
  have N765 := Fr.app N0 N765q
  have sz765 : h0.size ≤ h765.size := K765.1
  have lt765_0 := ltA p765_0.lt
  have lt765_5 := ltA p765_5.lt
  have lt765_7 := ltA p765_7.lt
  have lt765_9 := ltA p765_9.lt
  have lt765_11 := ltA p765_11.lt
  have f766 : Arv Z h765 t0 k0 .int (8 : Int32) [(.int p3), (.int 0), (.int 0), (.int 0), (.int 0), (.int 0), (.int 0), (.int 0)] (.int 0) := by
    have q := p765_5
    exact q
  have f767 : Arv Z h765 t1 k1 .int (8 : Int32) [(.int p4), (.int 0), (.int 0), (.int 0), (.int 0), (.int 0), (.int 0), (.int 0)] (.int 0) := by
    have q := p765_7
    exact q
  have f768 : Arv Z h765 t2 k2 .double (8 : Int32) [(.double FP.dconst1), (.double (0 : UInt64)), (.double (0 : UInt64)), (.double (0 : UInt64)), (.double (0 : UInt64)), (.double (0 : UInt64)), (.double (0 : UInt64)), (.double (0 : UInt64))] (.double (0 : UInt64)) := by
    have q := p765_9
    exact q
  have f769 : Arv Z h765 t3 k3 .boolean (8 : Int32) [(.int (nar .boolean r0)), (.int 0), (.int 0), (.int 0), (.int 0), (.int 0), (.int 0), (.int 0)] (.int 0) := by
    have q := p765_11
    exact q
  have pre770 : ∀ t, Steps p.tables e below (T765.setTop (mkF m 153 (la5 p0 p1 p2 p3 p4 p5 (1 : Int32) kk r0 r1 r2 r3 b) [])) t → Steps p.tables e below (T0.setTop (mkF m 80 (la5 p0 p1 p2 p3 p4 p5 (1 : Int32) kk r0 r1 r2 r3 b) [])) t := by
    intro t kt
    refine pre0 t ?_
    show GO p e below T0 (mkF m 80 (la5 p0 p1 p2 p3 p4 p5 (1 : Int32) kk r0 r1 r2 r3 b) []) _
    refine XS.iload X0.here hx rfl (hb hby at_80) rfl ?_
    show GO p e below T0 (mkF m 82 (la5 p0 p1 p2 p3 p4 p5 (1 : Int32) kk r0 r1 r2 r3 b) [(.int 1)]) _
    refine XS.ifNo X0.here hx rfl (hb hby at_82) rfl ((if0 _ _).trans (tlt ((by decide) : (0 : Int32) < (1 : Int32))).2.2.2) ?_
    show GO p e below T0 (mkF m 85 (la5 p0 p1 p2 p3 p4 p5 (1 : Int32) kk r0 r1 r2 r3 b) []) _
    refine XS.aload X0.here hx rfl (hb hby at_85) rfl rfl ?_
    show GO p e below T0 (mkF m 87 (la5 p0 p1 p2 p3 p4 p5 (1 : Int32) kk r0 r1 r2 r3 b) [(.ref b)]) _
    refine XS.iloadN X0.here hx rfl (hb hby at_87) rfl ?_
    show GO p e below T0 (mkF m 88 (la5 p0 p1 p2 p3 p4 p5 (1 : Int32) kk r0 r1 r2 r3 b) [(.int p3), (.ref b)]) _
    refine XS.iload X0.here hx rfl (hb hby at_88) rfl ?_
    show GO p e below T0 (mkF m 90 (la5 p0 p1 p2 p3 p4 p5 (1 : Int32) kk r0 r1 r2 r3 b) [(.int p4), (.int p3), (.ref b)]) _
    refine XS.dconst1 X0.here hx rfl (hb hby at_90) rfl ?_
    show GO p e below T0 (mkF m 91 (la5 p0 p1 p2 p3 p4 p5 (1 : Int32) kk r0 r1 r2 r3 b) [(.double FP.dconst1), (.int p4), (.int p3), (.ref b)]) _
    refine XS.iload X0.here hx rfl (hb hby at_91) rfl ?_
    show GO p e below T0 (mkF m 93 (la5 p0 p1 p2 p3 p4 p5 (1 : Int32) kk r0 r1 r2 r3 b) [(.int r0), (.double FP.dconst1), (.int p4), (.int p3), (.ref b)]) _
    refine st765.trans ?_
    show GO p e below T765 (mkF m 96 (la5 p0 p1 p2 p3 p4 p5 (1 : Int32) kk r0 r1 r2 r3 b) []) _
    refine XS.iload X765.here hx rfl (hb hby at_96) rfl ?_
    show GO p e below T765 (mkF m 98 (la5 p0 p1 p2 p3 p4 p5 (1 : Int32) kk r0 r1 r2 r3 b) [(.int 1)]) _
    refine XS.iconst X765.here hx rfl (hb hby at_98) ?_
    show GO p e below T765 (mkF m 99 (la5 p0 p1 p2 p3 p4 p5 (1 : Int32) kk r0 r1 r2 r3 b) [(.int 1), (.int 1)]) _
    refine XS.icmpYes X765.here hx rfl (pc0 := 99) (pc' := 115) rfl (hb hby at_99) rfl (flt ((by decide) : ¬ ((1 : Int32) < (1 : Int32)))).2.2.2 (by decide) (by decide) ?_
    show GO p e below T765 (mkF m 115 (la5 p0 p1 p2 p3 p4 p5 (1 : Int32) kk r0 r1 r2 r3 b) []) _
    refine XS.iload X765.here hx rfl (hb hby at_115) rfl ?_
    show GO p e below T765 (mkF m 117 (la5 p0 p1 p2 p3 p4 p5 (1 : Int32) kk r0 r1 r2 r3 b) [(.int 1)]) _
    refine XS.iconst X765.here hx rfl (hb hby at_117) ?_
    show GO p e below T765 (mkF m 118 (la5 p0 p1 p2 p3 p4 p5 (1 : Int32) kk r0 r1 r2 r3 b) [(.int 2), (.int 1)]) _
    refine XS.icmpYes X765.here hx rfl (pc0 := 118) (pc' := 134) rfl (hb hby at_118) rfl (flt ((by decide) : ¬ ((2 : Int32) < (1 : Int32)))).2.2.2 (by decide) (by decide) ?_
    show GO p e below T765 (mkF m 134 (la5 p0 p1 p2 p3 p4 p5 (1 : Int32) kk r0 r1 r2 r3 b) []) _
    refine XS.iload X765.here hx rfl (hb hby at_134) rfl ?_
    show GO p e below T765 (mkF m 136 (la5 p0 p1 p2 p3 p4 p5 (1 : Int32) kk r0 r1 r2 r3 b) [(.int 1)]) _
    refine XS.iconst X765.here hx rfl (hb hby at_136) ?_
    show GO p e below T765 (mkF m 137 (la5 p0 p1 p2 p3 p4 p5 (1 : Int32) kk r0 r1 r2 r3 b) [(.int 3), (.int 1)]) _
    refine XS.icmpYes X765.here hx rfl (pc0 := 137) (pc' := 153) rfl (hb hby at_137) rfl (flt ((by decide) : ¬ ((3 : Int32) < (1 : Int32)))).2.2.2 (by decide) (by decide) ?_
    exact kt
  rcases hk with rfl | rfl
  · have pre771 : ∀ t, Steps p.tables e below (T765.setTop (mkF m 199 (la5 p0 p1 p2 p3 p4 p5 (1 : Int32) (0 : Int32) r0 r1 r2 r3 b) [(.int (p5 &&& (1 : Int32)))])) t → Steps p.tables e below (T0.setTop (mkF m 80 (la5 p0 p1 p2 p3 p4 p5 (1 : Int32) (0 : Int32) r0 r1 r2 r3 b) [])) t := by
      intro t kt
      refine pre770 t ?_
      show GO p e below T765 (mkF m 153 (la5 p0 p1 p2 p3 p4 p5 (1 : Int32) (0 : Int32) r0 r1 r2 r3 b) []) _
      refine XS.iload X765.here hx rfl (hb hby at_153) rfl ?_
      show GO p e below T765 (mkF m 155 (la5 p0 p1 p2 p3 p4 p5 (1 : Int32) (0 : Int32) r0 r1 r2 r3 b) [(.int 0)]) _
      refine XS.ifYes X765.here hx rfl (pc0 := 155) (pc' := 164) rfl (hb hby at_155) rfl ((if0 _ _).trans (flt ((by decide) : ¬ ((0 : Int32) < (0 : Int32)))).2.2.2) (by decide) (by decide) ?_
      show GO p e below T765 (mkF m 164 (la5 p0 p1 p2 p3 p4 p5 (1 : Int32) (0 : Int32) r0 r1 r2 r3 b) []) _
      refine XS.iload X765.here hx rfl (hb hby at_164) rfl ?_
      show GO p e below T765 (mkF m 166 (la5 p0 p1 p2 p3 p4 p5 (1 : Int32) (0 : Int32) r0 r1 r2 r3 b) [(.int 0)]) _
      refine XS.iconst X765.here hx rfl (hb hby at_166) ?_
      show GO p e below T765 (mkF m 167 (la5 p0 p1 p2 p3 p4 p5 (1 : Int32) (0 : Int32) r0 r1 r2 r3 b) [(.int 1), (.int 0)]) _
      refine XS.icmpYes X765.here hx rfl (pc0 := 167) (pc' := 176) rfl (hb hby at_167) rfl (flt ((by decide) : ¬ ((1 : Int32) < (0 : Int32)))).2.2.2 (by decide) (by decide) ?_
      show GO p e below T765 (mkF m 176 (la5 p0 p1 p2 p3 p4 p5 (1 : Int32) (0 : Int32) r0 r1 r2 r3 b) []) _
      refine XS.iload X765.here hx rfl (hb hby at_176) rfl ?_
      show GO p e below T765 (mkF m 178 (la5 p0 p1 p2 p3 p4 p5 (1 : Int32) (0 : Int32) r0 r1 r2 r3 b) [(.int 0)]) _
      refine XS.iconst X765.here hx rfl (hb hby at_178) ?_
      show GO p e below T765 (mkF m 179 (la5 p0 p1 p2 p3 p4 p5 (1 : Int32) (0 : Int32) r0 r1 r2 r3 b) [(.int 2), (.int 0)]) _
      refine XS.icmpYes X765.here hx rfl (pc0 := 179) (pc' := 188) rfl (hb hby at_179) rfl (flt ((by decide) : ¬ ((2 : Int32) < (0 : Int32)))).2.2.2 (by decide) (by decide) ?_
      show GO p e below T765 (mkF m 188 (la5 p0 p1 p2 p3 p4 p5 (1 : Int32) (0 : Int32) r0 r1 r2 r3 b) []) _
      refine XS.iload X765.here hx rfl (hb hby at_188) rfl ?_
      show GO p e below T765 (mkF m 190 (la5 p0 p1 p2 p3 p4 p5 (1 : Int32) (0 : Int32) r0 r1 r2 r3 b) [(.int 0)]) _
      refine XS.iload X765.here hx rfl (hb hby at_190) rfl ?_
      show GO p e below T765 (mkF m 192 (la5 p0 p1 p2 p3 p4 p5 (1 : Int32) (0 : Int32) r0 r1 r2 r3 b) [(.int 1), (.int 0)]) _
      refine XS.icmpNo X765.here hx rfl (hb hby at_192) rfl (tlt ((by decide) : (0 : Int32) < (1 : Int32))).2.1 ?_
      show GO p e below T765 (mkF m 195 (la5 p0 p1 p2 p3 p4 p5 (1 : Int32) (0 : Int32) r0 r1 r2 r3 b) []) _
      refine XS.iload X765.here hx rfl (hb hby at_195) rfl ?_
      show GO p e below T765 (mkF m 197 (la5 p0 p1 p2 p3 p4 p5 (1 : Int32) (0 : Int32) r0 r1 r2 r3 b) [(.int p5)]) _
      refine XS.iconst X765.here hx rfl (hb hby at_197) ?_
      show GO p e below T765 (mkF m 198 (la5 p0 p1 p2 p3 p4 p5 (1 : Int32) (0 : Int32) r0 r1 r2 r3 b) [(.int 1), (.int p5)]) _
      refine XS.iand X765.here hx rfl (hb hby at_198) rfl ?_
      exact kt
    by_cases hb772 : (p5 &&& (1 : Int32)) = (0 : Int32)
    · obtain ⟨vv_773, T773, h773, L773, X773, e773, N773, st773⟩ := tail_1_0 p0 p1 p2 p3 p4 p5 r0 r1 r2 r3 b t3 k3 X765 hx hZ hw hby hml hown e765 N765 (by omega) p765_0 p765_1 p765_2 p765_10 f769 (by first | assumption | decide | omega | exact neN (by omega)) (by first | assumption | decide | omega | exact neN (by omega)) (by first | assumption | decide | omega | exact neN (by omega)) (by first | assumption | decide | omega | exact neN (by omega))
      have pre774 : ∀ t, Steps p.tables e below (T773.setTop (mkF m 298 (la6 p0 p1 p2 p3 p4 p5 (1 : Int32) (0 : Int32) r0 r1 r2 r3 b vv_773) [(.int 1)])) t → Steps p.tables e below (T0.setTop (mkF m 80 (la5 p0 p1 p2 p3 p4 p5 (1 : Int32) (0 : Int32) r0 r1 r2 r3 b) [])) t := by
        intro t kt
        refine pre771 t ?_
        show GO p e below T765 (mkF m 199 (la5 p0 p1 p2 p3 p4 p5 (1 : Int32) (0 : Int32) r0 r1 r2 r3 b) [(.int (p5 &&& (1 : Int32)))]) _
        refine XS.ifYes X765.here hx rfl (pc0 := 199) (pc' := 210) rfl (hb hby at_199) rfl ((if0 _ _).trans (teq (hb772 : (p5 &&& (1 : Int32)) = (0 : Int32))).1) (by decide) (by decide) ?_
        show GO p e below T765 (mkF m 210 (la5 p0 p1 p2 p3 p4 p5 (1 : Int32) (0 : Int32) r0 r1 r2 r3 b) []) _
        refine st773 _ ?_
        exact kt
      exact ⟨vv_773, T773, h773, _, X773.mono (by decide) (by decide), e773, N773, fun t kt => pre774 t kt⟩
    · -- pc 207: Block.takeFromHead by rm_takep0
      obtain ⟨cq775, kq775, q775a, q775b, q775c⟩ := isOf hZ e765 p765_0
      obtain ⟨_, _, ⟨T775, L775, k775, n775⟩, -, X775, ⟨Lc775, hQ775, l775, y775, z775⟩, st775⟩ := X765.virtualBack hx (y := (⟨kS0, "takeFromHead", "(D)V"⟩ : MethodName)) (z := (⟨kS0, "takeFromHead", "(D)V"⟩ : MethodName)) hown (mvT hZ (wd hw 41 rfl)) (mvT hZ (wd hw 42 rfl)) (notFace_of_selects (args := #[]) (mvT hZ (wd hw 44 rfl))) (mvT hZ (wd hw 44 rfl)) (mvT hZ (wd hw 43 rfl)) (by decide) (backOf (W := 0) (rm_takep0 l Z a0 hw [] b (4602678819172646912 : UInt64) (1 : Int32) (FP.dadd (0 : UInt64) FP.dconst1) FP.dconst1 t0 k0 ([(.int p3), (.int 0), (.int 0), (.int 0), (.int 0), (.int 0), (.int 0), (.int 0)]) t1 k1 ([(.int p4), (.int 0), (.int 0), (.int 0), (.int 0), (.int 0), (.int 0), (.int 0)]) t2 k2 ([(.double FP.dconst1), (.double (0 : UInt64)), (.double (0 : UInt64)), (.double (0 : UInt64)), (.double (0 : UInt64)), (.double (0 : UInt64)), (.double (0 : UInt64)), (.double (0 : UInt64))]) t3 k3 ([(.int (nar .boolean r0)), (.int 0), (.int 0), (.int 0), (.int 0), (.int 0), (.int 0), (.int 0)]) h765 n0 (by omega) p765_0 p765_1 p765_2 p765_3 p765_4 f766 p765_6 f767 p765_8 f768 p765_10 f769 rfl rfl rfl rfl (by first | assumption | decide | omega | exact neN (by omega)) (by first | assumption | decide | omega | exact neN (by omega)) (by first | assumption | decide | omega | exact neN (by omega)) (by first | assumption | decide | omega | exact neN (by omega)) (by first | assumption | decide | omega | exact neN (by omega)) rfl (by decide +kernel) (by unfold Jvm.Free.Fl.NoNaN64; decide +kernel) (by unfold Jvm.Free.Fl.NoNaN64; decide +kernel) (by decide)) hZ (wd hw 45 rfl) (wd hw 7 rfl) (by decide) (by decide)) q775a q775c (g := (mkF m 207 (la5 p0 p1 p2 p3 p4 p5 (1 : Int32) (0 : Int32) r0 r1 r2 r3 b) [(.double (4602678819172646912 : UInt64)), (.ref b)])) rfl (by rw [hml]; rfl) (Steps.refl _) (argsL := [(.double (4602678819172646912 : UInt64))]) (rest := []) (lenOf pd_2 rfl) rfl (by show 2 * 0 + _ ≤ _; exact Nat.le_of_eq rfl) (hb hby at_207) (fun _ _ => ⟨rfl, e765, (by decide : 5 + 0 ≤ _), (by decide : 39 + 0 ≤ _)⟩)
      dsimp only [Pt.U, Pt.locs, Pt.cells, Pt.slots] at X775 l775 y775 z775 st775 hQ775
      subst l775 y775 z775
      obtain ⟨h775, e775⟩ : ∃ z, T775.heap = z := ⟨_, rfl⟩
      rw [e775] at hQ775
      obtain ⟨rfl, N775q, K775, p775_0, p775_1, p775_2, p775_3, p775_4, p775_5, p775_6, p775_7, p775_8, p775_9, p775_10, p775_11⟩ := hQ775
      have N775 := Fr.app N765 N775q
      have sz775 : h765.size ≤ h775.size := K775.1
      have lt775_0 := ltA p775_0.lt
      have lt775_5 := ltA p775_5.lt
      have lt775_7 := ltA p775_7.lt
      have lt775_9 := ltA p775_9.lt
      have lt775_11 := ltA p775_11.lt
      have f776 : Arv Z h775 t2 k2 .double (8 : Int32) [(.double (FP.dsub FP.dconst1 (4602678819172646912 : UInt64))), (.double (0 : UInt64)), (.double (0 : UInt64)), (.double (0 : UInt64)), (.double (0 : UInt64)), (.double (0 : UInt64)), (.double (0 : UInt64)), (.double (0 : UInt64))] (.double (0 : UInt64)) := by
        have q := p775_9
        exact q
      obtain ⟨vv_777, T777, h777, L777, X777, e777, N777, st777⟩ := tail_1_0 p0 p1 p2 p3 p4 p5 r0 r1 r2 r3 b t3 k3 X775 hx hZ hw hby hml hown e775 N775 (by omega) p775_0 p775_1 p775_2 p775_10 p775_11 (by first | assumption | decide | omega | exact neN (by omega)) (by first | assumption | decide | omega | exact neN (by omega)) (by first | assumption | decide | omega | exact neN (by omega)) (by first | assumption | decide | omega | exact neN (by omega))
      have pre778 : ∀ t, Steps p.tables e below (T777.setTop (mkF m 298 (la6 p0 p1 p2 p3 p4 p5 (1 : Int32) (0 : Int32) r0 r1 r2 r3 b vv_777) [(.int 1)])) t → Steps p.tables e below (T0.setTop (mkF m 80 (la5 p0 p1 p2 p3 p4 p5 (1 : Int32) (0 : Int32) r0 r1 r2 r3 b) [])) t := by
        intro t kt
        refine pre771 t ?_
        show GO p e below T765 (mkF m 199 (la5 p0 p1 p2 p3 p4 p5 (1 : Int32) (0 : Int32) r0 r1 r2 r3 b) [(.int (p5 &&& (1 : Int32)))]) _
        refine XS.ifNo X765.here hx rfl (hb hby at_199) rfl ((if0 _ _).trans (feq (hb772 : ¬ ((p5 &&& (1 : Int32)) = (0 : Int32)))).1) ?_
        show GO p e below T765 (mkF m 202 (la5 p0 p1 p2 p3 p4 p5 (1 : Int32) (0 : Int32) r0 r1 r2 r3 b) []) _
        refine XS.aload X765.here hx rfl (hb hby at_202) rfl rfl ?_
        show GO p e below T765 (mkF m 204 (la5 p0 p1 p2 p3 p4 p5 (1 : Int32) (0 : Int32) r0 r1 r2 r3 b) [(.ref b)]) _
        refine X765.ldc2DoubleC hx hown (mvT hZ (wd hw 46 rfl)) (g := (mkF m 204 (la5 p0 p1 p2 p3 p4 p5 (1 : Int32) (0 : Int32) r0 r1 r2 r3 b) [(.ref b)])) rfl (hb hby at_204) _ ?_
        show GO p e below T765 (mkF m 207 (la5 p0 p1 p2 p3 p4 p5 (1 : Int32) (0 : Int32) r0 r1 r2 r3 b) [(.double (4602678819172646912 : UInt64)), (.ref b)]) _
        refine st775.trans ?_
        show GO p e below T775 (mkF m 210 (la5 p0 p1 p2 p3 p4 p5 (1 : Int32) (0 : Int32) r0 r1 r2 r3 b) []) _
        refine st777 _ ?_
        exact kt
      exact ⟨vv_777, T777, h777, _, X777.mono (by decide) (by decide), e777, N777, fun t kt => pre778 t kt⟩
  · -- pc 161: Block.takeFromHead by rm_takef0
    obtain ⟨cq779, kq779, q779a, q779b, q779c⟩ := isOf hZ e765 p765_0
    obtain ⟨_, _, ⟨T779, L779, k779, n779⟩, -, X779, ⟨Lc779, hQ779, l779, y779, z779⟩, st779⟩ := X765.virtualBack hx (y := (⟨kS0, "takeFromHead", "(D)V"⟩ : MethodName)) (z := (⟨kS0, "takeFromHead", "(D)V"⟩ : MethodName)) hown (mvT hZ (wd hw 41 rfl)) (mvT hZ (wd hw 42 rfl)) (notFace_of_selects (args := #[]) (mvT hZ (wd hw 44 rfl))) (mvT hZ (wd hw 44 rfl)) (mvT hZ (wd hw 43 rfl)) (by decide) (backOf (W := 0) (rm_takef0 l Z a0 hw [] b FP.dconst1 (1 : Int32) (FP.dadd (0 : UInt64) FP.dconst1) FP.dconst1 t0 k0 ([(.int p3), (.int 0), (.int 0), (.int 0), (.int 0), (.int 0), (.int 0), (.int 0)]) t1 k1 ([(.int p4), (.int 0), (.int 0), (.int 0), (.int 0), (.int 0), (.int 0), (.int 0)]) t2 k2 ([(.double FP.dconst1), (.double (0 : UInt64)), (.double (0 : UInt64)), (.double (0 : UInt64)), (.double (0 : UInt64)), (.double (0 : UInt64)), (.double (0 : UInt64)), (.double (0 : UInt64))]) t3 k3 ([(.int (nar .boolean r0)), (.int 0), (.int 0), (.int 0), (.int 0), (.int 0), (.int 0), (.int 0)]) h765 n0 (by omega) p765_0 p765_1 p765_2 p765_3 p765_4 f766 p765_6 f767 p765_8 f768 p765_10 f769 rfl rfl rfl rfl (by first | assumption | decide | omega | exact neN (by omega)) (by first | assumption | decide | omega | exact neN (by omega)) (by first | assumption | decide | omega | exact neN (by omega)) (by first | assumption | decide | omega | exact neN (by omega)) (by first | assumption | decide | omega | exact neN (by omega)) rfl (by decide +kernel) (by unfold Jvm.Free.Fl.NoNaN64; decide +kernel)) hZ (wd hw 45 rfl) (wd hw 7 rfl) (by decide) (by decide)) q779a q779c (g := (mkF m 161 (la5 p0 p1 p2 p3 p4 p5 (1 : Int32) (1 : Int32) r0 r1 r2 r3 b) [(.double FP.dconst1), (.ref b)])) rfl (by rw [hml]; rfl) (Steps.refl _) (argsL := [(.double FP.dconst1)]) (rest := []) (lenOf pd_2 rfl) rfl (by show 2 * 0 + _ ≤ _; exact Nat.le_of_eq rfl) (hb hby at_161) (fun _ _ => ⟨rfl, e765, (by decide : 5 + 0 ≤ _), (by decide : 39 + 0 ≤ _)⟩)
    dsimp only [Pt.U, Pt.locs, Pt.cells, Pt.slots] at X779 l779 y779 z779 st779 hQ779
    subst l779 y779 z779
    obtain ⟨h779, e779⟩ : ∃ z, T779.heap = z := ⟨_, rfl⟩
    rw [e779] at hQ779
    obtain ⟨rfl, N779q, K779, p779_0, p779_1, p779_2, p779_3, p779_4, p779_5, p779_6, p779_7, p779_8, p779_9, p779_10, p779_11⟩ := hQ779
    have N779 := Fr.app N765 N779q
    have sz779 : h765.size ≤ h779.size := K779.1
    have lt779_0 := ltA p779_0.lt
    have lt779_5 := ltA p779_5.lt
    have lt779_7 := ltA p779_7.lt
    have lt779_9 := ltA p779_9.lt
    have lt779_11 := ltA p779_11.lt
    have f780 : Fld Z h779 b kS0 "size" "I" (.int 0) := by
      have q := p779_2
      rw [show ((1 : Int32) - (1 : Int32)) = (0 : Int32) from by decide] at q
      exact q
    have f781 : Fld Z h779 b kS0 "content" "D" (.double (if (0 : Int32) = (0 : Int32) then (0 : UInt64) else FP.dsub (FP.dadd (0 : UInt64) FP.dconst1) FP.dconst1)) := by
      have q := p779_3
      rw [show ((1 : Int32) - (1 : Int32)) = (0 : Int32) from by decide] at q
      exact q
    obtain ⟨vv_782, T782, h782, L782, X782, e782, N782, st782⟩ := tail_1_1 p0 p1 p2 p3 p4 p5 r0 r1 r2 r3 b t3 k3 X779 hx hZ hw hby hml hown e779 N779 (by omega) p779_0 p779_1 f780 p779_10 p779_11 (by first | assumption | decide | omega | exact neN (by omega)) (by first | assumption | decide | omega | exact neN (by omega)) (by first | assumption | decide | omega | exact neN (by omega)) (by first | assumption | decide | omega | exact neN (by omega))
    have pre783 : ∀ t, Steps p.tables e below (T782.setTop (mkF m 298 (la6 p0 p1 p2 p3 p4 p5 (1 : Int32) (1 : Int32) r0 r1 r2 r3 b vv_782) [(.int 1)])) t → Steps p.tables e below (T0.setTop (mkF m 80 (la5 p0 p1 p2 p3 p4 p5 (1 : Int32) (1 : Int32) r0 r1 r2 r3 b) [])) t := by
      intro t kt
      refine pre770 t ?_
      show GO p e below T765 (mkF m 153 (la5 p0 p1 p2 p3 p4 p5 (1 : Int32) (1 : Int32) r0 r1 r2 r3 b) []) _
      refine XS.iload X765.here hx rfl (hb hby at_153) rfl ?_
      show GO p e below T765 (mkF m 155 (la5 p0 p1 p2 p3 p4 p5 (1 : Int32) (1 : Int32) r0 r1 r2 r3 b) [(.int 1)]) _
      refine XS.ifNo X765.here hx rfl (hb hby at_155) rfl ((if0 _ _).trans (tlt ((by decide) : (0 : Int32) < (1 : Int32))).2.2.2) ?_
      show GO p e below T765 (mkF m 158 (la5 p0 p1 p2 p3 p4 p5 (1 : Int32) (1 : Int32) r0 r1 r2 r3 b) []) _
      refine XS.aload X765.here hx rfl (hb hby at_158) rfl rfl ?_
      show GO p e below T765 (mkF m 160 (la5 p0 p1 p2 p3 p4 p5 (1 : Int32) (1 : Int32) r0 r1 r2 r3 b) [(.ref b)]) _
      refine XS.dconst1 X765.here hx rfl (hb hby at_160) rfl ?_
      show GO p e below T765 (mkF m 161 (la5 p0 p1 p2 p3 p4 p5 (1 : Int32) (1 : Int32) r0 r1 r2 r3 b) [(.double FP.dconst1), (.ref b)]) _
      refine st779.trans ?_
      show GO p e below T779 (mkF m 164 (la5 p0 p1 p2 p3 p4 p5 (1 : Int32) (1 : Int32) r0 r1 r2 r3 b) []) _
      refine XS.iload X779.here hx rfl (hb hby at_164) rfl ?_
      show GO p e below T779 (mkF m 166 (la5 p0 p1 p2 p3 p4 p5 (1 : Int32) (1 : Int32) r0 r1 r2 r3 b) [(.int 1)]) _
      refine XS.iconst X779.here hx rfl (hb hby at_166) ?_
      show GO p e below T779 (mkF m 167 (la5 p0 p1 p2 p3 p4 p5 (1 : Int32) (1 : Int32) r0 r1 r2 r3 b) [(.int 1), (.int 1)]) _
      refine XS.icmpYes X779.here hx rfl (pc0 := 167) (pc' := 176) rfl (hb hby at_167) rfl (flt ((by decide) : ¬ ((1 : Int32) < (1 : Int32)))).2.2.2 (by decide) (by decide) ?_
      show GO p e below T779 (mkF m 176 (la5 p0 p1 p2 p3 p4 p5 (1 : Int32) (1 : Int32) r0 r1 r2 r3 b) []) _
      refine XS.iload X779.here hx rfl (hb hby at_176) rfl ?_
      show GO p e below T779 (mkF m 178 (la5 p0 p1 p2 p3 p4 p5 (1 : Int32) (1 : Int32) r0 r1 r2 r3 b) [(.int 1)]) _
      refine XS.iconst X779.here hx rfl (hb hby at_178) ?_
      show GO p e below T779 (mkF m 179 (la5 p0 p1 p2 p3 p4 p5 (1 : Int32) (1 : Int32) r0 r1 r2 r3 b) [(.int 2), (.int 1)]) _
      refine XS.icmpYes X779.here hx rfl (pc0 := 179) (pc' := 188) rfl (hb hby at_179) rfl (flt ((by decide) : ¬ ((2 : Int32) < (1 : Int32)))).2.2.2 (by decide) (by decide) ?_
      show GO p e below T779 (mkF m 188 (la5 p0 p1 p2 p3 p4 p5 (1 : Int32) (1 : Int32) r0 r1 r2 r3 b) []) _
      refine XS.iload X779.here hx rfl (hb hby at_188) rfl ?_
      show GO p e below T779 (mkF m 190 (la5 p0 p1 p2 p3 p4 p5 (1 : Int32) (1 : Int32) r0 r1 r2 r3 b) [(.int 1)]) _
      refine XS.iload X779.here hx rfl (hb hby at_190) rfl ?_
      show GO p e below T779 (mkF m 192 (la5 p0 p1 p2 p3 p4 p5 (1 : Int32) (1 : Int32) r0 r1 r2 r3 b) [(.int 1), (.int 1)]) _
      refine XS.icmpYes X779.here hx rfl (pc0 := 192) (pc' := 210) rfl (hb hby at_192) rfl (flt ((by decide) : ¬ ((1 : Int32) < (1 : Int32)))).2.1 (by decide) (by decide) ?_
      show GO p e below T779 (mkF m 210 (la5 p0 p1 p2 p3 p4 p5 (1 : Int32) (1 : Int32) r0 r1 r2 r3 b) []) _
      refine st782 _ ?_
      exact kt
    exact ⟨vv_782, T782, h782, _, X782.mono (by decide) (by decide), e782, N782, fun t kt => pre783 t kt⟩
set_option maxRecDepth 65536 in
set_option maxHeartbeats 40000000 in
theorem seg_2 {p : Program} {l : Launch} {e : Env} {s : State} {m : MethodId} {args : Array Value} {below : List Frame} {meth : Method} {c : Code} {T0 : State} {locs : List Loc} {Z : State} {a0 : Array Value} (p0 : Int32) (p1 : Int32) (p2 : Int32) (p3 : Int32) (p4 : Int32) (p5 : Int32) (kk : Int32) (r0 : Int32) (r1 : Int32) (r2 : Int32) (r3 : Int32) (b : Addr) (t0 : Addr) (t1 : Addr) (t2 : Addr) (t3 : Addr) (k0 : ClassId) (k1 : ClassId) (k2 : ClassId) (k3 : ClassId) {h0 : Heap} {n0 : Nat}
    (X0 : Stand p l e room_1 s m args below meth c T0 locs 5 39) (hx : p.tables.exec = Jvm.exec) (hZ : Z.Warmed39 s.vm) (hw : ∀ d ∈ tables_1, d.before a0 Z = true) (hby : c.code = code) (hml : c.maxLocals = 14) (hown : s.vm.findClass "com/example/occupancy/occupancy/loading/BlockHoldsRearPinLaw" = some m.cls) (e0 : T0.heap = h0) (N0 : Fr n0 locs) (Z0 : n0 ≤ h0.size) (E1 : Exa Z h0 b kS0) (Fh : Fld Z h0 b kS0 "head" "I" (.int 0)) (Fs : Fld Z h0 b kS0 "size" "I" (.int 0)) (Fc : Fld Z h0 b kS0 "content" "D" (.double (0 : UInt64))) (F0 : Fld Z h0 b kS0 "agents" "[I" (.ref t0)) (V0 : Arv Z h0 t0 k0 .int (8 : Int32) [(.int 0), (.int 0), (.int 0), (.int 0), (.int 0), (.int 0), (.int 0), (.int 0)] (.int 0)) (F1 : Fld Z h0 b kS0 "legs" "[I" (.ref t1)) (V1 : Arv Z h0 t1 k1 .int (8 : Int32) [(.int 0), (.int 0), (.int 0), (.int 0), (.int 0), (.int 0), (.int 0), (.int 0)] (.int 0)) (F2 : Fld Z h0 b kS0 "amounts" "[D" (.ref t2)) (V2 : Arv Z h0 t2 k2 .double (8 : Int32) [(.double (0 : UInt64)), (.double (0 : UInt64)), (.double (0 : UInt64)), (.double (0 : UInt64)), (.double (0 : UInt64)), (.double (0 : UInt64)), (.double (0 : UInt64)), (.double (0 : UInt64))] (.double (0 : UInt64))) (F3 : Fld Z h0 b kS0 "rears" "[Z" (.ref t3)) (V3 : Arv Z h0 t3 k3 .boolean (8 : Int32) [(.int 0), (.int 0), (.int 0), (.int 0), (.int 0), (.int 0), (.int 0), (.int 0)] (.int 0)) (o1 : LT.lt (α := Nat) b t0) (o2 : LT.lt (α := Nat) t0 t1) (o3 : LT.lt (α := Nat) t1 t2) (o4 : LT.lt (α := Nat) t2 t3) (g1 : n0 ≤ b) (hk : kk = (0 : Int32) ∨ kk = (1 : Int32) ∨ kk = (2 : Int32)) (hb0 : nar .boolean r0 = r0) (hb1 : nar .boolean r1 = r1) (hb2 : nar .boolean r2 = r2) (hb3 : nar .boolean r3 = r3) :
    ∃ vv : Int32, ∃ (T' : State) (h' : Heap) (locs' : List Loc), Stand p l e room_1 s m args below meth c T' locs' 5 39 ∧ T'.heap = h' ∧ Fr n0 locs' ∧
      ∀ target, Steps p.tables e below (T'.setTop (mkF m 298 #[.val (.int p0), .val (.int p1), .val (.int p2), .val (.int p3), .val (.int p4), .val (.int p5), .val (.int 2), .val (.int kk), .val (.int r0), .val (.int r1), .val (.int r2), .val (.int r3), .val (.ref b), .val (.int vv)] [(.int 1)])) target → Steps p.tables e below (T0.setTop (mkF m 80 (la5 p0 p1 p2 p3 p4 p5 (2 : Int32) kk r0 r1 r2 r3 b) [])) target := by
  have pre0 : ∀ t, Steps p.tables e below (T0.setTop (mkF m 80 (la5 p0 p1 p2 p3 p4 p5 (2 : Int32) kk r0 r1 r2 r3 b) [])) t → Steps p.tables e below (T0.setTop (mkF m 80 (la5 p0 p1 p2 p3 p4 p5 (2 : Int32) kk r0 r1 r2 r3 b) [])) t := fun _ k => k
  have lt_E1 := ltA E1.lt
  have lt_Fh := ltA Fh.lt
  have lt_Fs := ltA Fs.lt
  have lt_Fc := ltA Fc.lt
  have lt_F0 := ltA F0.lt
  have lt_V0 := ltA V0.lt
  have lt_F1 := ltA F1.lt
  have lt_V1 := ltA V1.lt
  have lt_F2 := ltA F2.lt
  have lt_V2 := ltA V2.lt
  have lt_F3 := ltA F3.lt
  have lt_V3 := ltA V3.lt
  -- pc 93: Block.add by rm_add0
  obtain ⟨cq784, kq784, q784a, q784b, q784c⟩ := isOf hZ e0 E1
  obtain ⟨_, _, ⟨T784, L784, k784, n784⟩, -, X784, ⟨Lc784, hQ784, l784, y784, z784⟩, st784⟩ := X0.virtualBack hx (y := (⟨kS0, "add", "(IIDZ)V"⟩ : MethodName)) (z := (⟨kS0, "add", "(IIDZ)V"⟩ : MethodName)) hown (mvT hZ (wd hw 32 rfl)) (mvT hZ (wd hw 33 rfl)) (notFace_of_selects (args := #[]) (mvT hZ (wd hw 35 rfl))) (mvT hZ (wd hw 35 rfl)) (mvT hZ (wd hw 34 rfl)) (by decide) (backOf (W := 0) (rm_add0 l Z a0 hw [] b p3 p4 FP.dconst1 r0 (0 : UInt64) t0 k0 ([(.int 0), (.int 0), (.int 0), (.int 0), (.int 0), (.int 0), (.int 0), (.int 0)]) t1 k1 ([(.int 0), (.int 0), (.int 0), (.int 0), (.int 0), (.int 0), (.int 0), (.int 0)]) t2 k2 ([(.double (0 : UInt64)), (.double (0 : UInt64)), (.double (0 : UInt64)), (.double (0 : UInt64)), (.double (0 : UInt64)), (.double (0 : UInt64)), (.double (0 : UInt64)), (.double (0 : UInt64))]) t3 k3 ([(.int 0), (.int 0), (.int 0), (.int 0), (.int 0), (.int 0), (.int 0), (.int 0)]) h0 n0 (by omega) E1 Fh Fs Fc F0 V0 F1 V1 F2 V2 F3 V3 rfl rfl rfl rfl (by first | assumption | decide | omega | exact neN (by omega)) (by first | assumption | decide | omega | exact neN (by omega)) (by first | assumption | decide | omega | exact neN (by omega)) (by first | assumption | decide | omega | exact neN (by omega)) (by first | assumption | decide | omega | exact neN (by omega)) (by unfold Jvm.Free.Fl.NoNaN64; decide +kernel)) hZ (wd hw 36 rfl) (wd hw 7 rfl) (by decide) (by decide)) q784a q784c (g := (mkF m 93 (la5 p0 p1 p2 p3 p4 p5 (2 : Int32) kk r0 r1 r2 r3 b) [(.int r0), (.double FP.dconst1), (.int p4), (.int p3), (.ref b)])) rfl (by rw [hml]; rfl) (Steps.refl _) (argsL := [(.int p3), (.int p4), (.double FP.dconst1), (.int r0)]) (rest := []) (lenOf pd_1 rfl) rfl (by show 2 * 0 + _ ≤ _; exact Nat.le_of_eq rfl) (hb hby at_93) (fun _ _ => ⟨rfl, e0, (by decide : 5 + 0 ≤ _), (by decide : 39 + 0 ≤ _)⟩)
  dsimp only [Pt.U, Pt.locs, Pt.cells, Pt.slots] at X784 l784 y784 z784 st784 hQ784
  subst l784 y784 z784
  obtain ⟨h784, e784⟩ : ∃ z, T784.heap = z := ⟨_, rfl⟩
  rw [e784] at hQ784
  obtain ⟨rfl, N784q, K784, p784_0, p784_1, p784_2, p784_3, p784_4, p784_5, p784_6, p784_7, p784_8, p784_9, p784_10, p784_11⟩ := hQ784
  have N784 := Fr.app N0 N784q
  have sz784 : h0.size ≤ h784.size := K784.1
  have lt784_0 := ltA p784_0.lt
  have lt784_5 := ltA p784_5.lt
  have lt784_7 := ltA p784_7.lt
  have lt784_9 := ltA p784_9.lt
  have lt784_11 := ltA p784_11.lt
  have f785 : Arv Z h784 t0 k0 .int (8 : Int32) [(.int p3), (.int 0), (.int 0), (.int 0), (.int 0), (.int 0), (.int 0), (.int 0)] (.int 0) := by
    have q := p784_5
    exact q
  have f786 : Arv Z h784 t1 k1 .int (8 : Int32) [(.int p4), (.int 0), (.int 0), (.int 0), (.int 0), (.int 0), (.int 0), (.int 0)] (.int 0) := by
    have q := p784_7
    exact q
  have f787 : Arv Z h784 t2 k2 .double (8 : Int32) [(.double FP.dconst1), (.double (0 : UInt64)), (.double (0 : UInt64)), (.double (0 : UInt64)), (.double (0 : UInt64)), (.double (0 : UInt64)), (.double (0 : UInt64)), (.double (0 : UInt64))] (.double (0 : UInt64)) := by
    have q := p784_9
    exact q
  have f788 : Arv Z h784 t3 k3 .boolean (8 : Int32) [(.int (nar .boolean r0)), (.int 0), (.int 0), (.int 0), (.int 0), (.int 0), (.int 0), (.int 0)] (.int 0) := by
    have q := p784_11
    exact q
  -- pc 112: Block.add by rm_add1
  obtain ⟨cq789, kq789, q789a, q789b, q789c⟩ := isOf hZ e784 p784_0
  obtain ⟨_, _, ⟨T789, L789, k789, n789⟩, -, X789, ⟨Lc789, hQ789, l789, y789, z789⟩, st789⟩ := X784.virtualBack hx (y := (⟨kS0, "add", "(IIDZ)V"⟩ : MethodName)) (z := (⟨kS0, "add", "(IIDZ)V"⟩ : MethodName)) hown (mvT hZ (wd hw 32 rfl)) (mvT hZ (wd hw 33 rfl)) (notFace_of_selects (args := #[]) (mvT hZ (wd hw 35 rfl))) (mvT hZ (wd hw 35 rfl)) (mvT hZ (wd hw 34 rfl)) (by decide) (backOf (W := 0) (rm_add1 l Z a0 hw [] b (p3 + (1 : Int32)) p4 FP.dconst1 r1 (FP.dadd (0 : UInt64) FP.dconst1) t0 k0 ([(.int p3), (.int 0), (.int 0), (.int 0), (.int 0), (.int 0), (.int 0), (.int 0)]) t1 k1 ([(.int p4), (.int 0), (.int 0), (.int 0), (.int 0), (.int 0), (.int 0), (.int 0)]) t2 k2 ([(.double FP.dconst1), (.double (0 : UInt64)), (.double (0 : UInt64)), (.double (0 : UInt64)), (.double (0 : UInt64)), (.double (0 : UInt64)), (.double (0 : UInt64)), (.double (0 : UInt64))]) t3 k3 ([(.int (nar .boolean r0)), (.int 0), (.int 0), (.int 0), (.int 0), (.int 0), (.int 0), (.int 0)]) p3 h784 n0 (by omega) p784_0 p784_1 p784_2 p784_3 p784_4 f785 p784_6 f786 p784_8 f787 p784_10 f788 rfl rfl rfl rfl (by first | assumption | decide | omega | exact neN (by omega)) (by first | assumption | decide | omega | exact neN (by omega)) (by first | assumption | decide | omega | exact neN (by omega)) (by first | assumption | decide | omega | exact neN (by omega)) (by first | assumption | decide | omega | exact neN (by omega)) (by unfold Jvm.Free.Fl.NoNaN64; decide +kernel) rfl (own_ag1 p3)) hZ (wd hw 36 rfl) (wd hw 7 rfl) (by decide) (by decide)) q789a q789c (g := (mkF m 112 (la5 p0 p1 p2 p3 p4 p5 (2 : Int32) kk r0 r1 r2 r3 b) [(.int r1), (.double FP.dconst1), (.int p4), (.int (p3 + (1 : Int32))), (.ref b)])) rfl (by rw [hml]; rfl) (Steps.refl _) (argsL := [(.int (p3 + (1 : Int32))), (.int p4), (.double FP.dconst1), (.int r1)]) (rest := []) (lenOf pd_1 rfl) rfl (by show 2 * 0 + _ ≤ _; exact Nat.le_of_eq rfl) (hb hby at_112) (fun _ _ => ⟨rfl, e784, (by decide : 5 + 0 ≤ _), (by decide : 39 + 0 ≤ _)⟩)
  dsimp only [Pt.U, Pt.locs, Pt.cells, Pt.slots] at X789 l789 y789 z789 st789 hQ789
  subst l789 y789 z789
  obtain ⟨h789, e789⟩ : ∃ z, T789.heap = z := ⟨_, rfl⟩
  rw [e789] at hQ789
  obtain ⟨rfl, N789q, K789, p789_0, p789_1, p789_2, p789_3, p789_4, p789_5, p789_6, p789_7, p789_8, p789_9, p789_10, p789_11⟩ := hQ789
  have N789 := Fr.app N784 N789q
  have sz789 : h784.size ≤ h789.size := K789.1
  have lt789_0 := ltA p789_0.lt
  have lt789_5 := ltA p789_5.lt
  have lt789_7 := ltA p789_7.lt
  have lt789_9 := ltA p789_9.lt
  have lt789_11 := ltA p789_11.lt
  have f790 : Arv Z h789 t0 k0 .int (8 : Int32) [(.int p3), (.int (p3 + (1 : Int32))), (.int 0), (.int 0), (.int 0), (.int 0), (.int 0), (.int 0)] (.int 0) := by
    have q := p789_5
    exact q
  have f791 : Arv Z h789 t1 k1 .int (8 : Int32) [(.int p4), (.int p4), (.int 0), (.int 0), (.int 0), (.int 0), (.int 0), (.int 0)] (.int 0) := by
    have q := p789_7
    exact q
  have f792 : Arv Z h789 t2 k2 .double (8 : Int32) [(.double FP.dconst1), (.double FP.dconst1), (.double (0 : UInt64)), (.double (0 : UInt64)), (.double (0 : UInt64)), (.double (0 : UInt64)), (.double (0 : UInt64)), (.double (0 : UInt64))] (.double (0 : UInt64)) := by
    have q := p789_9
    exact q
  have f793 : Arv Z h789 t3 k3 .boolean (8 : Int32) [(.int (nar .boolean r0)), (.int (nar .boolean r1)), (.int 0), (.int 0), (.int 0), (.int 0), (.int 0), (.int 0)] (.int 0) := by
    have q := p789_11
    exact q
  have pre794 : ∀ t, Steps p.tables e below (T789.setTop (mkF m 153 (la5 p0 p1 p2 p3 p4 p5 (2 : Int32) kk r0 r1 r2 r3 b) [])) t → Steps p.tables e below (T0.setTop (mkF m 80 (la5 p0 p1 p2 p3 p4 p5 (2 : Int32) kk r0 r1 r2 r3 b) [])) t := by
    intro t kt
    refine pre0 t ?_
    show GO p e below T0 (mkF m 80 (la5 p0 p1 p2 p3 p4 p5 (2 : Int32) kk r0 r1 r2 r3 b) []) _
    refine XS.iload X0.here hx rfl (hb hby at_80) rfl ?_
    show GO p e below T0 (mkF m 82 (la5 p0 p1 p2 p3 p4 p5 (2 : Int32) kk r0 r1 r2 r3 b) [(.int 2)]) _
    refine XS.ifNo X0.here hx rfl (hb hby at_82) rfl ((if0 _ _).trans (tlt ((by decide) : (0 : Int32) < (2 : Int32))).2.2.2) ?_
    show GO p e below T0 (mkF m 85 (la5 p0 p1 p2 p3 p4 p5 (2 : Int32) kk r0 r1 r2 r3 b) []) _
    refine XS.aload X0.here hx rfl (hb hby at_85) rfl rfl ?_
    show GO p e below T0 (mkF m 87 (la5 p0 p1 p2 p3 p4 p5 (2 : Int32) kk r0 r1 r2 r3 b) [(.ref b)]) _
    refine XS.iloadN X0.here hx rfl (hb hby at_87) rfl ?_
    show GO p e below T0 (mkF m 88 (la5 p0 p1 p2 p3 p4 p5 (2 : Int32) kk r0 r1 r2 r3 b) [(.int p3), (.ref b)]) _
    refine XS.iload X0.here hx rfl (hb hby at_88) rfl ?_
    show GO p e below T0 (mkF m 90 (la5 p0 p1 p2 p3 p4 p5 (2 : Int32) kk r0 r1 r2 r3 b) [(.int p4), (.int p3), (.ref b)]) _
    refine XS.dconst1 X0.here hx rfl (hb hby at_90) rfl ?_
    show GO p e below T0 (mkF m 91 (la5 p0 p1 p2 p3 p4 p5 (2 : Int32) kk r0 r1 r2 r3 b) [(.double FP.dconst1), (.int p4), (.int p3), (.ref b)]) _
    refine XS.iload X0.here hx rfl (hb hby at_91) rfl ?_
    show GO p e below T0 (mkF m 93 (la5 p0 p1 p2 p3 p4 p5 (2 : Int32) kk r0 r1 r2 r3 b) [(.int r0), (.double FP.dconst1), (.int p4), (.int p3), (.ref b)]) _
    refine st784.trans ?_
    show GO p e below T784 (mkF m 96 (la5 p0 p1 p2 p3 p4 p5 (2 : Int32) kk r0 r1 r2 r3 b) []) _
    refine XS.iload X784.here hx rfl (hb hby at_96) rfl ?_
    show GO p e below T784 (mkF m 98 (la5 p0 p1 p2 p3 p4 p5 (2 : Int32) kk r0 r1 r2 r3 b) [(.int 2)]) _
    refine XS.iconst X784.here hx rfl (hb hby at_98) ?_
    show GO p e below T784 (mkF m 99 (la5 p0 p1 p2 p3 p4 p5 (2 : Int32) kk r0 r1 r2 r3 b) [(.int 1), (.int 2)]) _
    refine XS.icmpNo X784.here hx rfl (hb hby at_99) rfl (tlt ((by decide) : (1 : Int32) < (2 : Int32))).2.2.2 ?_
    show GO p e below T784 (mkF m 102 (la5 p0 p1 p2 p3 p4 p5 (2 : Int32) kk r0 r1 r2 r3 b) []) _
    refine XS.aload X784.here hx rfl (hb hby at_102) rfl rfl ?_
    show GO p e below T784 (mkF m 104 (la5 p0 p1 p2 p3 p4 p5 (2 : Int32) kk r0 r1 r2 r3 b) [(.ref b)]) _
    refine XS.iloadN X784.here hx rfl (hb hby at_104) rfl ?_
    show GO p e below T784 (mkF m 105 (la5 p0 p1 p2 p3 p4 p5 (2 : Int32) kk r0 r1 r2 r3 b) [(.int p3), (.ref b)]) _
    refine XS.iconst X784.here hx rfl (hb hby at_105) ?_
    show GO p e below T784 (mkF m 106 (la5 p0 p1 p2 p3 p4 p5 (2 : Int32) kk r0 r1 r2 r3 b) [(.int 1), (.int p3), (.ref b)]) _
    refine XS.iadd X784.here hx rfl (hb hby at_106) rfl ?_
    show GO p e below T784 (mkF m 107 (la5 p0 p1 p2 p3 p4 p5 (2 : Int32) kk r0 r1 r2 r3 b) [(.int (p3 + (1 : Int32))), (.ref b)]) _
    refine XS.iload X784.here hx rfl (hb hby at_107) rfl ?_
    show GO p e below T784 (mkF m 109 (la5 p0 p1 p2 p3 p4 p5 (2 : Int32) kk r0 r1 r2 r3 b) [(.int p4), (.int (p3 + (1 : Int32))), (.ref b)]) _
    refine XS.dconst1 X784.here hx rfl (hb hby at_109) rfl ?_
    show GO p e below T784 (mkF m 110 (la5 p0 p1 p2 p3 p4 p5 (2 : Int32) kk r0 r1 r2 r3 b) [(.double FP.dconst1), (.int p4), (.int (p3 + (1 : Int32))), (.ref b)]) _
    refine XS.iload X784.here hx rfl (hb hby at_110) rfl ?_
    show GO p e below T784 (mkF m 112 (la5 p0 p1 p2 p3 p4 p5 (2 : Int32) kk r0 r1 r2 r3 b) [(.int r1), (.double FP.dconst1), (.int p4), (.int (p3 + (1 : Int32))), (.ref b)]) _
    refine st789.trans ?_
    show GO p e below T789 (mkF m 115 (la5 p0 p1 p2 p3 p4 p5 (2 : Int32) kk r0 r1 r2 r3 b) []) _
    refine XS.iload X789.here hx rfl (hb hby at_115) rfl ?_
    show GO p e below T789 (mkF m 117 (la5 p0 p1 p2 p3 p4 p5 (2 : Int32) kk r0 r1 r2 r3 b) [(.int 2)]) _
    refine XS.iconst X789.here hx rfl (hb hby at_117) ?_
    show GO p e below T789 (mkF m 118 (la5 p0 p1 p2 p3 p4 p5 (2 : Int32) kk r0 r1 r2 r3 b) [(.int 2), (.int 2)]) _
    refine XS.icmpYes X789.here hx rfl (pc0 := 118) (pc' := 134) rfl (hb hby at_118) rfl (flt ((by decide) : ¬ ((2 : Int32) < (2 : Int32)))).2.2.2 (by decide) (by decide) ?_
    show GO p e below T789 (mkF m 134 (la5 p0 p1 p2 p3 p4 p5 (2 : Int32) kk r0 r1 r2 r3 b) []) _
    refine XS.iload X789.here hx rfl (hb hby at_134) rfl ?_
    show GO p e below T789 (mkF m 136 (la5 p0 p1 p2 p3 p4 p5 (2 : Int32) kk r0 r1 r2 r3 b) [(.int 2)]) _
    refine XS.iconst X789.here hx rfl (hb hby at_136) ?_
    show GO p e below T789 (mkF m 137 (la5 p0 p1 p2 p3 p4 p5 (2 : Int32) kk r0 r1 r2 r3 b) [(.int 3), (.int 2)]) _
    refine XS.icmpYes X789.here hx rfl (pc0 := 137) (pc' := 153) rfl (hb hby at_137) rfl (flt ((by decide) : ¬ ((3 : Int32) < (2 : Int32)))).2.2.2 (by decide) (by decide) ?_
    exact kt
  rcases hk with rfl | rfl | rfl
  · have pre795 : ∀ t, Steps p.tables e below (T789.setTop (mkF m 199 (la5 p0 p1 p2 p3 p4 p5 (2 : Int32) (0 : Int32) r0 r1 r2 r3 b) [(.int (p5 &&& (1 : Int32)))])) t → Steps p.tables e below (T0.setTop (mkF m 80 (la5 p0 p1 p2 p3 p4 p5 (2 : Int32) (0 : Int32) r0 r1 r2 r3 b) [])) t := by
      intro t kt
      refine pre794 t ?_
      show GO p e below T789 (mkF m 153 (la5 p0 p1 p2 p3 p4 p5 (2 : Int32) (0 : Int32) r0 r1 r2 r3 b) []) _
      refine XS.iload X789.here hx rfl (hb hby at_153) rfl ?_
      show GO p e below T789 (mkF m 155 (la5 p0 p1 p2 p3 p4 p5 (2 : Int32) (0 : Int32) r0 r1 r2 r3 b) [(.int 0)]) _
      refine XS.ifYes X789.here hx rfl (pc0 := 155) (pc' := 164) rfl (hb hby at_155) rfl ((if0 _ _).trans (flt ((by decide) : ¬ ((0 : Int32) < (0 : Int32)))).2.2.2) (by decide) (by decide) ?_
      show GO p e below T789 (mkF m 164 (la5 p0 p1 p2 p3 p4 p5 (2 : Int32) (0 : Int32) r0 r1 r2 r3 b) []) _
      refine XS.iload X789.here hx rfl (hb hby at_164) rfl ?_
      show GO p e below T789 (mkF m 166 (la5 p0 p1 p2 p3 p4 p5 (2 : Int32) (0 : Int32) r0 r1 r2 r3 b) [(.int 0)]) _
      refine XS.iconst X789.here hx rfl (hb hby at_166) ?_
      show GO p e below T789 (mkF m 167 (la5 p0 p1 p2 p3 p4 p5 (2 : Int32) (0 : Int32) r0 r1 r2 r3 b) [(.int 1), (.int 0)]) _
      refine XS.icmpYes X789.here hx rfl (pc0 := 167) (pc' := 176) rfl (hb hby at_167) rfl (flt ((by decide) : ¬ ((1 : Int32) < (0 : Int32)))).2.2.2 (by decide) (by decide) ?_
      show GO p e below T789 (mkF m 176 (la5 p0 p1 p2 p3 p4 p5 (2 : Int32) (0 : Int32) r0 r1 r2 r3 b) []) _
      refine XS.iload X789.here hx rfl (hb hby at_176) rfl ?_
      show GO p e below T789 (mkF m 178 (la5 p0 p1 p2 p3 p4 p5 (2 : Int32) (0 : Int32) r0 r1 r2 r3 b) [(.int 0)]) _
      refine XS.iconst X789.here hx rfl (hb hby at_178) ?_
      show GO p e below T789 (mkF m 179 (la5 p0 p1 p2 p3 p4 p5 (2 : Int32) (0 : Int32) r0 r1 r2 r3 b) [(.int 2), (.int 0)]) _
      refine XS.icmpYes X789.here hx rfl (pc0 := 179) (pc' := 188) rfl (hb hby at_179) rfl (flt ((by decide) : ¬ ((2 : Int32) < (0 : Int32)))).2.2.2 (by decide) (by decide) ?_
      show GO p e below T789 (mkF m 188 (la5 p0 p1 p2 p3 p4 p5 (2 : Int32) (0 : Int32) r0 r1 r2 r3 b) []) _
      refine XS.iload X789.here hx rfl (hb hby at_188) rfl ?_
      show GO p e below T789 (mkF m 190 (la5 p0 p1 p2 p3 p4 p5 (2 : Int32) (0 : Int32) r0 r1 r2 r3 b) [(.int 0)]) _
      refine XS.iload X789.here hx rfl (hb hby at_190) rfl ?_
      show GO p e below T789 (mkF m 192 (la5 p0 p1 p2 p3 p4 p5 (2 : Int32) (0 : Int32) r0 r1 r2 r3 b) [(.int 2), (.int 0)]) _
      refine XS.icmpNo X789.here hx rfl (hb hby at_192) rfl (tlt ((by decide) : (0 : Int32) < (2 : Int32))).2.1 ?_
      show GO p e below T789 (mkF m 195 (la5 p0 p1 p2 p3 p4 p5 (2 : Int32) (0 : Int32) r0 r1 r2 r3 b) []) _
      refine XS.iload X789.here hx rfl (hb hby at_195) rfl ?_
      show GO p e below T789 (mkF m 197 (la5 p0 p1 p2 p3 p4 p5 (2 : Int32) (0 : Int32) r0 r1 r2 r3 b) [(.int p5)]) _
      refine XS.iconst X789.here hx rfl (hb hby at_197) ?_
      show GO p e below T789 (mkF m 198 (la5 p0 p1 p2 p3 p4 p5 (2 : Int32) (0 : Int32) r0 r1 r2 r3 b) [(.int 1), (.int p5)]) _
      refine XS.iand X789.here hx rfl (hb hby at_198) rfl ?_
      exact kt
    by_cases hb796 : (p5 &&& (1 : Int32)) = (0 : Int32)
    · obtain ⟨vv_797, T797, h797, L797, X797, e797, N797, st797⟩ := tail_2_0 p0 p1 p2 p3 p4 p5 r0 r1 r2 r3 b t3 k3 X789 hx hZ hw hby hml hown e789 N789 (by omega) p789_0 p789_1 p789_2 p789_10 f793 (by first | assumption | decide | omega | exact neN (by omega)) (by first | assumption | decide | omega | exact neN (by omega)) (by first | assumption | decide | omega | exact neN (by omega)) (by first | assumption | decide | omega | exact neN (by omega))
      have pre798 : ∀ t, Steps p.tables e below (T797.setTop (mkF m 298 (la6 p0 p1 p2 p3 p4 p5 (2 : Int32) (0 : Int32) r0 r1 r2 r3 b vv_797) [(.int 1)])) t → Steps p.tables e below (T0.setTop (mkF m 80 (la5 p0 p1 p2 p3 p4 p5 (2 : Int32) (0 : Int32) r0 r1 r2 r3 b) [])) t := by
        intro t kt
        refine pre795 t ?_
        show GO p e below T789 (mkF m 199 (la5 p0 p1 p2 p3 p4 p5 (2 : Int32) (0 : Int32) r0 r1 r2 r3 b) [(.int (p5 &&& (1 : Int32)))]) _
        refine XS.ifYes X789.here hx rfl (pc0 := 199) (pc' := 210) rfl (hb hby at_199) rfl ((if0 _ _).trans (teq (hb796 : (p5 &&& (1 : Int32)) = (0 : Int32))).1) (by decide) (by decide) ?_
        show GO p e below T789 (mkF m 210 (la5 p0 p1 p2 p3 p4 p5 (2 : Int32) (0 : Int32) r0 r1 r2 r3 b) []) _
        refine st797 _ ?_
        exact kt
      exact ⟨vv_797, T797, h797, _, X797.mono (by decide) (by decide), e797, N797, fun t kt => pre798 t kt⟩
    · -- pc 207: Block.takeFromHead by rm_takep0
      obtain ⟨cq799, kq799, q799a, q799b, q799c⟩ := isOf hZ e789 p789_0
      obtain ⟨_, _, ⟨T799, L799, k799, n799⟩, -, X799, ⟨Lc799, hQ799, l799, y799, z799⟩, st799⟩ := X789.virtualBack hx (y := (⟨kS0, "takeFromHead", "(D)V"⟩ : MethodName)) (z := (⟨kS0, "takeFromHead", "(D)V"⟩ : MethodName)) hown (mvT hZ (wd hw 41 rfl)) (mvT hZ (wd hw 42 rfl)) (notFace_of_selects (args := #[]) (mvT hZ (wd hw 44 rfl))) (mvT hZ (wd hw 44 rfl)) (mvT hZ (wd hw 43 rfl)) (by decide) (backOf (W := 0) (rm_takep0 l Z a0 hw [] b (4602678819172646912 : UInt64) (2 : Int32) (FP.dadd (FP.dadd (0 : UInt64) FP.dconst1) FP.dconst1) FP.dconst1 t0 k0 ([(.int p3), (.int (p3 + (1 : Int32))), (.int 0), (.int 0), (.int 0), (.int 0), (.int 0), (.int 0)]) t1 k1 ([(.int p4), (.int p4), (.int 0), (.int 0), (.int 0), (.int 0), (.int 0), (.int 0)]) t2 k2 ([(.double FP.dconst1), (.double FP.dconst1), (.double (0 : UInt64)), (.double (0 : UInt64)), (.double (0 : UInt64)), (.double (0 : UInt64)), (.double (0 : UInt64)), (.double (0 : UInt64))]) t3 k3 ([(.int (nar .boolean r0)), (.int (nar .boolean r1)), (.int 0), (.int 0), (.int 0), (.int 0), (.int 0), (.int 0)]) h789 n0 (by omega) p789_0 p789_1 p789_2 p789_3 p789_4 f790 p789_6 f791 p789_8 f792 p789_10 f793 rfl rfl rfl rfl (by first | assumption | decide | omega | exact neN (by omega)) (by first | assumption | decide | omega | exact neN (by omega)) (by first | assumption | decide | omega | exact neN (by omega)) (by first | assumption | decide | omega | exact neN (by omega)) (by first | assumption | decide | omega | exact neN (by omega)) rfl (by decide +kernel) (by unfold Jvm.Free.Fl.NoNaN64; decide +kernel) (by unfold Jvm.Free.Fl.NoNaN64; decide +kernel) (by decide)) hZ (wd hw 45 rfl) (wd hw 7 rfl) (by decide) (by decide)) q799a q799c (g := (mkF m 207 (la5 p0 p1 p2 p3 p4 p5 (2 : Int32) (0 : Int32) r0 r1 r2 r3 b) [(.double (4602678819172646912 : UInt64)), (.ref b)])) rfl (by rw [hml]; rfl) (Steps.refl _) (argsL := [(.double (4602678819172646912 : UInt64))]) (rest := []) (lenOf pd_2 rfl) rfl (by show 2 * 0 + _ ≤ _; exact Nat.le_of_eq rfl) (hb hby at_207) (fun _ _ => ⟨rfl, e789, (by decide : 5 + 0 ≤ _), (by decide : 39 + 0 ≤ _)⟩)
      dsimp only [Pt.U, Pt.locs, Pt.cells, Pt.slots] at X799 l799 y799 z799 st799 hQ799
      subst l799 y799 z799
      obtain ⟨h799, e799⟩ : ∃ z, T799.heap = z := ⟨_, rfl⟩
      rw [e799] at hQ799
      obtain ⟨rfl, N799q, K799, p799_0, p799_1, p799_2, p799_3, p799_4, p799_5, p799_6, p799_7, p799_8, p799_9, p799_10, p799_11⟩ := hQ799
      have N799 := Fr.app N789 N799q
      have sz799 : h789.size ≤ h799.size := K799.1
      have lt799_0 := ltA p799_0.lt
      have lt799_5 := ltA p799_5.lt
      have lt799_7 := ltA p799_7.lt
      have lt799_9 := ltA p799_9.lt
      have lt799_11 := ltA p799_11.lt
      have f800 : Arv Z h799 t2 k2 .double (8 : Int32) [(.double (FP.dsub FP.dconst1 (4602678819172646912 : UInt64))), (.double FP.dconst1), (.double (0 : UInt64)), (.double (0 : UInt64)), (.double (0 : UInt64)), (.double (0 : UInt64)), (.double (0 : UInt64)), (.double (0 : UInt64))] (.double (0 : UInt64)) := by
        have q := p799_9
        exact q
      obtain ⟨vv_801, T801, h801, L801, X801, e801, N801, st801⟩ := tail_2_0 p0 p1 p2 p3 p4 p5 r0 r1 r2 r3 b t3 k3 X799 hx hZ hw hby hml hown e799 N799 (by omega) p799_0 p799_1 p799_2 p799_10 p799_11 (by first | assumption | decide | omega | exact neN (by omega)) (by first | assumption | decide | omega | exact neN (by omega)) (by first | assumption | decide | omega | exact neN (by omega)) (by first | assumption | decide | omega | exact neN (by omega))
      have pre802 : ∀ t, Steps p.tables e below (T801.setTop (mkF m 298 (la6 p0 p1 p2 p3 p4 p5 (2 : Int32) (0 : Int32) r0 r1 r2 r3 b vv_801) [(.int 1)])) t → Steps p.tables e below (T0.setTop (mkF m 80 (la5 p0 p1 p2 p3 p4 p5 (2 : Int32) (0 : Int32) r0 r1 r2 r3 b) [])) t := by
        intro t kt
        refine pre795 t ?_
        show GO p e below T789 (mkF m 199 (la5 p0 p1 p2 p3 p4 p5 (2 : Int32) (0 : Int32) r0 r1 r2 r3 b) [(.int (p5 &&& (1 : Int32)))]) _
        refine XS.ifNo X789.here hx rfl (hb hby at_199) rfl ((if0 _ _).trans (feq (hb796 : ¬ ((p5 &&& (1 : Int32)) = (0 : Int32)))).1) ?_
        show GO p e below T789 (mkF m 202 (la5 p0 p1 p2 p3 p4 p5 (2 : Int32) (0 : Int32) r0 r1 r2 r3 b) []) _
        refine XS.aload X789.here hx rfl (hb hby at_202) rfl rfl ?_
        show GO p e below T789 (mkF m 204 (la5 p0 p1 p2 p3 p4 p5 (2 : Int32) (0 : Int32) r0 r1 r2 r3 b) [(.ref b)]) _
        refine X789.ldc2DoubleC hx hown (mvT hZ (wd hw 46 rfl)) (g := (mkF m 204 (la5 p0 p1 p2 p3 p4 p5 (2 : Int32) (0 : Int32) r0 r1 r2 r3 b) [(.ref b)])) rfl (hb hby at_204) _ ?_
        show GO p e below T789 (mkF m 207 (la5 p0 p1 p2 p3 p4 p5 (2 : Int32) (0 : Int32) r0 r1 r2 r3 b) [(.double (4602678819172646912 : UInt64)), (.ref b)]) _
        refine st799.trans ?_
        show GO p e below T799 (mkF m 210 (la5 p0 p1 p2 p3 p4 p5 (2 : Int32) (0 : Int32) r0 r1 r2 r3 b) []) _
        refine st801 _ ?_
        exact kt
      exact ⟨vv_801, T801, h801, _, X801.mono (by decide) (by decide), e801, N801, fun t kt => pre802 t kt⟩
  · -- pc 161: Block.takeFromHead by rm_takef0
    obtain ⟨cq803, kq803, q803a, q803b, q803c⟩ := isOf hZ e789 p789_0
    obtain ⟨_, _, ⟨T803, L803, k803, n803⟩, -, X803, ⟨Lc803, hQ803, l803, y803, z803⟩, st803⟩ := X789.virtualBack hx (y := (⟨kS0, "takeFromHead", "(D)V"⟩ : MethodName)) (z := (⟨kS0, "takeFromHead", "(D)V"⟩ : MethodName)) hown (mvT hZ (wd hw 41 rfl)) (mvT hZ (wd hw 42 rfl)) (notFace_of_selects (args := #[]) (mvT hZ (wd hw 44 rfl))) (mvT hZ (wd hw 44 rfl)) (mvT hZ (wd hw 43 rfl)) (by decide) (backOf (W := 0) (rm_takef0 l Z a0 hw [] b FP.dconst1 (2 : Int32) (FP.dadd (FP.dadd (0 : UInt64) FP.dconst1) FP.dconst1) FP.dconst1 t0 k0 ([(.int p3), (.int (p3 + (1 : Int32))), (.int 0), (.int 0), (.int 0), (.int 0), (.int 0), (.int 0)]) t1 k1 ([(.int p4), (.int p4), (.int 0), (.int 0), (.int 0), (.int 0), (.int 0), (.int 0)]) t2 k2 ([(.double FP.dconst1), (.double FP.dconst1), (.double (0 : UInt64)), (.double (0 : UInt64)), (.double (0 : UInt64)), (.double (0 : UInt64)), (.double (0 : UInt64)), (.double (0 : UInt64))]) t3 k3 ([(.int (nar .boolean r0)), (.int (nar .boolean r1)), (.int 0), (.int 0), (.int 0), (.int 0), (.int 0), (.int 0)]) h789 n0 (by omega) p789_0 p789_1 p789_2 p789_3 p789_4 f790 p789_6 f791 p789_8 f792 p789_10 f793 rfl rfl rfl rfl (by first | assumption | decide | omega | exact neN (by omega)) (by first | assumption | decide | omega | exact neN (by omega)) (by first | assumption | decide | omega | exact neN (by omega)) (by first | assumption | decide | omega | exact neN (by omega)) (by first | assumption | decide | omega | exact neN (by omega)) rfl (by decide +kernel) (by unfold Jvm.Free.Fl.NoNaN64; decide +kernel)) hZ (wd hw 45 rfl) (wd hw 7 rfl) (by decide) (by decide)) q803a q803c (g := (mkF m 161 (la5 p0 p1 p2 p3 p4 p5 (2 : Int32) (1 : Int32) r0 r1 r2 r3 b) [(.double FP.dconst1), (.ref b)])) rfl (by rw [hml]; rfl) (Steps.refl _) (argsL := [(.double FP.dconst1)]) (rest := []) (lenOf pd_2 rfl) rfl (by show 2 * 0 + _ ≤ _; exact Nat.le_of_eq rfl) (hb hby at_161) (fun _ _ => ⟨rfl, e789, (by decide : 5 + 0 ≤ _), (by decide : 39 + 0 ≤ _)⟩)
    dsimp only [Pt.U, Pt.locs, Pt.cells, Pt.slots] at X803 l803 y803 z803 st803 hQ803
    subst l803 y803 z803
    obtain ⟨h803, e803⟩ : ∃ z, T803.heap = z := ⟨_, rfl⟩
    rw [e803] at hQ803
    obtain ⟨rfl, N803q, K803, p803_0, p803_1, p803_2, p803_3, p803_4, p803_5, p803_6, p803_7, p803_8, p803_9, p803_10, p803_11⟩ := hQ803
    have N803 := Fr.app N789 N803q
    have sz803 : h789.size ≤ h803.size := K803.1
    have lt803_0 := ltA p803_0.lt
    have lt803_5 := ltA p803_5.lt
    have lt803_7 := ltA p803_7.lt
    have lt803_9 := ltA p803_9.lt
    have lt803_11 := ltA p803_11.lt
    have f804 : Fld Z h803 b kS0 "size" "I" (.int 1) := by
      have q := p803_2
      rw [show ((2 : Int32) - (1 : Int32)) = (1 : Int32) from by decide] at q
      exact q
    have f805 : Fld Z h803 b kS0 "content" "D" (.double (if (1 : Int32) = (0 : Int32) then (0 : UInt64) else FP.dsub (FP.dadd (FP.dadd (0 : UInt64) FP.dconst1) FP.dconst1) FP.dconst1)) := by
      have q := p803_3
      rw [show ((2 : Int32) - (1 : Int32)) = (1 : Int32) from by decide] at q
      exact q
    have pre806 : ∀ t, Steps p.tables e below (T803.setTop (mkF m 199 (la5 p0 p1 p2 p3 p4 p5 (2 : Int32) (1 : Int32) r0 r1 r2 r3 b) [(.int (p5 &&& (1 : Int32)))])) t → Steps p.tables e below (T0.setTop (mkF m 80 (la5 p0 p1 p2 p3 p4 p5 (2 : Int32) (1 : Int32) r0 r1 r2 r3 b) [])) t := by
      intro t kt
      refine pre794 t ?_
      show GO p e below T789 (mkF m 153 (la5 p0 p1 p2 p3 p4 p5 (2 : Int32) (1 : Int32) r0 r1 r2 r3 b) []) _
      refine XS.iload X789.here hx rfl (hb hby at_153) rfl ?_
      show GO p e below T789 (mkF m 155 (la5 p0 p1 p2 p3 p4 p5 (2 : Int32) (1 : Int32) r0 r1 r2 r3 b) [(.int 1)]) _
      refine XS.ifNo X789.here hx rfl (hb hby at_155) rfl ((if0 _ _).trans (tlt ((by decide) : (0 : Int32) < (1 : Int32))).2.2.2) ?_
      show GO p e below T789 (mkF m 158 (la5 p0 p1 p2 p3 p4 p5 (2 : Int32) (1 : Int32) r0 r1 r2 r3 b) []) _
      refine XS.aload X789.here hx rfl (hb hby at_158) rfl rfl ?_
      show GO p e below T789 (mkF m 160 (la5 p0 p1 p2 p3 p4 p5 (2 : Int32) (1 : Int32) r0 r1 r2 r3 b) [(.ref b)]) _
      refine XS.dconst1 X789.here hx rfl (hb hby at_160) rfl ?_
      show GO p e below T789 (mkF m 161 (la5 p0 p1 p2 p3 p4 p5 (2 : Int32) (1 : Int32) r0 r1 r2 r3 b) [(.double FP.dconst1), (.ref b)]) _
      refine st803.trans ?_
      show GO p e below T803 (mkF m 164 (la5 p0 p1 p2 p3 p4 p5 (2 : Int32) (1 : Int32) r0 r1 r2 r3 b) []) _
      refine XS.iload X803.here hx rfl (hb hby at_164) rfl ?_
      show GO p e below T803 (mkF m 166 (la5 p0 p1 p2 p3 p4 p5 (2 : Int32) (1 : Int32) r0 r1 r2 r3 b) [(.int 1)]) _
      refine XS.iconst X803.here hx rfl (hb hby at_166) ?_
      show GO p e below T803 (mkF m 167 (la5 p0 p1 p2 p3 p4 p5 (2 : Int32) (1 : Int32) r0 r1 r2 r3 b) [(.int 1), (.int 1)]) _
      refine XS.icmpYes X803.here hx rfl (pc0 := 167) (pc' := 176) rfl (hb hby at_167) rfl (flt ((by decide) : ¬ ((1 : Int32) < (1 : Int32)))).2.2.2 (by decide) (by decide) ?_
      show GO p e below T803 (mkF m 176 (la5 p0 p1 p2 p3 p4 p5 (2 : Int32) (1 : Int32) r0 r1 r2 r3 b) []) _
      refine XS.iload X803.here hx rfl (hb hby at_176) rfl ?_
      show GO p e below T803 (mkF m 178 (la5 p0 p1 p2 p3 p4 p5 (2 : Int32) (1 : Int32) r0 r1 r2 r3 b) [(.int 1)]) _
      refine XS.iconst X803.here hx rfl (hb hby at_178) ?_
      show GO p e below T803 (mkF m 179 (la5 p0 p1 p2 p3 p4 p5 (2 : Int32) (1 : Int32) r0 r1 r2 r3 b) [(.int 2), (.int 1)]) _
      refine XS.icmpYes X803.here hx rfl (pc0 := 179) (pc' := 188) rfl (hb hby at_179) rfl (flt ((by decide) : ¬ ((2 : Int32) < (1 : Int32)))).2.2.2 (by decide) (by decide) ?_
      show GO p e below T803 (mkF m 188 (la5 p0 p1 p2 p3 p4 p5 (2 : Int32) (1 : Int32) r0 r1 r2 r3 b) []) _
      refine XS.iload X803.here hx rfl (hb hby at_188) rfl ?_
      show GO p e below T803 (mkF m 190 (la5 p0 p1 p2 p3 p4 p5 (2 : Int32) (1 : Int32) r0 r1 r2 r3 b) [(.int 1)]) _
      refine XS.iload X803.here hx rfl (hb hby at_190) rfl ?_
      show GO p e below T803 (mkF m 192 (la5 p0 p1 p2 p3 p4 p5 (2 : Int32) (1 : Int32) r0 r1 r2 r3 b) [(.int 2), (.int 1)]) _
      refine XS.icmpNo X803.here hx rfl (hb hby at_192) rfl (tlt ((by decide) : (1 : Int32) < (2 : Int32))).2.1 ?_
      show GO p e below T803 (mkF m 195 (la5 p0 p1 p2 p3 p4 p5 (2 : Int32) (1 : Int32) r0 r1 r2 r3 b) []) _
      refine XS.iload X803.here hx rfl (hb hby at_195) rfl ?_
      show GO p e below T803 (mkF m 197 (la5 p0 p1 p2 p3 p4 p5 (2 : Int32) (1 : Int32) r0 r1 r2 r3 b) [(.int p5)]) _
      refine XS.iconst X803.here hx rfl (hb hby at_197) ?_
      show GO p e below T803 (mkF m 198 (la5 p0 p1 p2 p3 p4 p5 (2 : Int32) (1 : Int32) r0 r1 r2 r3 b) [(.int 1), (.int p5)]) _
      refine XS.iand X803.here hx rfl (hb hby at_198) rfl ?_
      exact kt
    by_cases hb807 : (p5 &&& (1 : Int32)) = (0 : Int32)
    · obtain ⟨vv_808, T808, h808, L808, X808, e808, N808, st808⟩ := tail_2_1 p0 p1 p2 p3 p4 p5 r0 r1 r2 r3 b t3 k3 X803 hx hZ hw hby hml hown e803 N803 (by omega) p803_0 p803_1 f804 p803_10 p803_11 (by first | assumption | decide | omega | exact neN (by omega)) (by first | assumption | decide | omega | exact neN (by omega)) (by first | assumption | decide | omega | exact neN (by omega)) (by first | assumption | decide | omega | exact neN (by omega))
      have pre809 : ∀ t, Steps p.tables e below (T808.setTop (mkF m 298 (la6 p0 p1 p2 p3 p4 p5 (2 : Int32) (1 : Int32) r0 r1 r2 r3 b vv_808) [(.int 1)])) t → Steps p.tables e below (T0.setTop (mkF m 80 (la5 p0 p1 p2 p3 p4 p5 (2 : Int32) (1 : Int32) r0 r1 r2 r3 b) [])) t := by
        intro t kt
        refine pre806 t ?_
        show GO p e below T803 (mkF m 199 (la5 p0 p1 p2 p3 p4 p5 (2 : Int32) (1 : Int32) r0 r1 r2 r3 b) [(.int (p5 &&& (1 : Int32)))]) _
        refine XS.ifYes X803.here hx rfl (pc0 := 199) (pc' := 210) rfl (hb hby at_199) rfl ((if0 _ _).trans (teq (hb807 : (p5 &&& (1 : Int32)) = (0 : Int32))).1) (by decide) (by decide) ?_
        show GO p e below T803 (mkF m 210 (la5 p0 p1 p2 p3 p4 p5 (2 : Int32) (1 : Int32) r0 r1 r2 r3 b) []) _
        refine st808 _ ?_
        exact kt
      exact ⟨vv_808, T808, h808, _, X808.mono (by decide) (by decide), e808, N808, fun t kt => pre809 t kt⟩
    · -- pc 207: Block.takeFromHead by rm_takep1
      obtain ⟨cq810, kq810, q810a, q810b, q810c⟩ := isOf hZ e803 p803_0
      obtain ⟨_, _, ⟨T810, L810, k810, n810⟩, -, X810, ⟨Lc810, hQ810, l810, y810, z810⟩, st810⟩ := X803.virtualBack hx (y := (⟨kS0, "takeFromHead", "(D)V"⟩ : MethodName)) (z := (⟨kS0, "takeFromHead", "(D)V"⟩ : MethodName)) hown (mvT hZ (wd hw 41 rfl)) (mvT hZ (wd hw 42 rfl)) (notFace_of_selects (args := #[]) (mvT hZ (wd hw 44 rfl))) (mvT hZ (wd hw 44 rfl)) (mvT hZ (wd hw 43 rfl)) (by decide) (backOf (W := 0) (rm_takep1 l Z a0 hw [] b (4602678819172646912 : UInt64) (1 : Int32) (if (1 : Int32) = (0 : Int32) then (0 : UInt64) else FP.dsub (FP.dadd (FP.dadd (0 : UInt64) FP.dconst1) FP.dconst1) FP.dconst1) FP.dconst1 t0 k0 ([(.int p3), (.int (p3 + (1 : Int32))), (.int 0), (.int 0), (.int 0), (.int 0), (.int 0), (.int 0)]) t1 k1 ([(.int p4), (.int p4), (.int 0), (.int 0), (.int 0), (.int 0), (.int 0), (.int 0)]) t2 k2 ([(.double FP.dconst1), (.double FP.dconst1), (.double (0 : UInt64)), (.double (0 : UInt64)), (.double (0 : UInt64)), (.double (0 : UInt64)), (.double (0 : UInt64)), (.double (0 : UInt64))]) t3 k3 ([(.int (nar .boolean r0)), (.int (nar .boolean r1)), (.int 0), (.int 0), (.int 0), (.int 0), (.int 0), (.int 0)]) h803 n0 (by omega) p803_0 p803_1 f804 f805 p803_4 p803_5 p803_6 p803_7 p803_8 p803_9 p803_10 p803_11 rfl rfl rfl rfl (by first | assumption | decide | omega | exact neN (by omega)) (by first | assumption | decide | omega | exact neN (by omega)) (by first | assumption | decide | omega | exact neN (by omega)) (by first | assumption | decide | omega | exact neN (by omega)) (by first | assumption | decide | omega | exact neN (by omega)) rfl (by decide +kernel) (by unfold Jvm.Free.Fl.NoNaN64; decide +kernel) (by unfold Jvm.Free.Fl.NoNaN64; decide +kernel) (by decide)) hZ (wd hw 45 rfl) (wd hw 7 rfl) (by decide) (by decide)) q810a q810c (g := (mkF m 207 (la5 p0 p1 p2 p3 p4 p5 (2 : Int32) (1 : Int32) r0 r1 r2 r3 b) [(.double (4602678819172646912 : UInt64)), (.ref b)])) rfl (by rw [hml]; rfl) (Steps.refl _) (argsL := [(.double (4602678819172646912 : UInt64))]) (rest := []) (lenOf pd_2 rfl) rfl (by show 2 * 0 + _ ≤ _; exact Nat.le_of_eq rfl) (hb hby at_207) (fun _ _ => ⟨rfl, e803, (by decide : 5 + 0 ≤ _), (by decide : 39 + 0 ≤ _)⟩)
      dsimp only [Pt.U, Pt.locs, Pt.cells, Pt.slots] at X810 l810 y810 z810 st810 hQ810
      subst l810 y810 z810
      obtain ⟨h810, e810⟩ : ∃ z, T810.heap = z := ⟨_, rfl⟩
      rw [e810] at hQ810
      obtain ⟨rfl, N810q, K810, p810_0, p810_1, p810_2, p810_3, p810_4, p810_5, p810_6, p810_7, p810_8, p810_9, p810_10, p810_11⟩ := hQ810
      have N810 := Fr.app N803 N810q
      have sz810 : h803.size ≤ h810.size := K810.1
      have lt810_0 := ltA p810_0.lt
      have lt810_5 := ltA p810_5.lt
      have lt810_7 := ltA p810_7.lt
      have lt810_9 := ltA p810_9.lt
      have lt810_11 := ltA p810_11.lt
      have f811 : Arv Z h810 t2 k2 .double (8 : Int32) [(.double FP.dconst1), (.double (FP.dsub FP.dconst1 (4602678819172646912 : UInt64))), (.double (0 : UInt64)), (.double (0 : UInt64)), (.double (0 : UInt64)), (.double (0 : UInt64)), (.double (0 : UInt64)), (.double (0 : UInt64))] (.double (0 : UInt64)) := by
        have q := p810_9
        exact q
      obtain ⟨vv_812, T812, h812, L812, X812, e812, N812, st812⟩ := tail_2_1 p0 p1 p2 p3 p4 p5 r0 r1 r2 r3 b t3 k3 X810 hx hZ hw hby hml hown e810 N810 (by omega) p810_0 p810_1 p810_2 p810_10 p810_11 (by first | assumption | decide | omega | exact neN (by omega)) (by first | assumption | decide | omega | exact neN (by omega)) (by first | assumption | decide | omega | exact neN (by omega)) (by first | assumption | decide | omega | exact neN (by omega))
      have pre813 : ∀ t, Steps p.tables e below (T812.setTop (mkF m 298 (la6 p0 p1 p2 p3 p4 p5 (2 : Int32) (1 : Int32) r0 r1 r2 r3 b vv_812) [(.int 1)])) t → Steps p.tables e below (T0.setTop (mkF m 80 (la5 p0 p1 p2 p3 p4 p5 (2 : Int32) (1 : Int32) r0 r1 r2 r3 b) [])) t := by
        intro t kt
        refine pre806 t ?_
        show GO p e below T803 (mkF m 199 (la5 p0 p1 p2 p3 p4 p5 (2 : Int32) (1 : Int32) r0 r1 r2 r3 b) [(.int (p5 &&& (1 : Int32)))]) _
        refine XS.ifNo X803.here hx rfl (hb hby at_199) rfl ((if0 _ _).trans (feq (hb807 : ¬ ((p5 &&& (1 : Int32)) = (0 : Int32)))).1) ?_
        show GO p e below T803 (mkF m 202 (la5 p0 p1 p2 p3 p4 p5 (2 : Int32) (1 : Int32) r0 r1 r2 r3 b) []) _
        refine XS.aload X803.here hx rfl (hb hby at_202) rfl rfl ?_
        show GO p e below T803 (mkF m 204 (la5 p0 p1 p2 p3 p4 p5 (2 : Int32) (1 : Int32) r0 r1 r2 r3 b) [(.ref b)]) _
        refine X803.ldc2DoubleC hx hown (mvT hZ (wd hw 46 rfl)) (g := (mkF m 204 (la5 p0 p1 p2 p3 p4 p5 (2 : Int32) (1 : Int32) r0 r1 r2 r3 b) [(.ref b)])) rfl (hb hby at_204) _ ?_
        show GO p e below T803 (mkF m 207 (la5 p0 p1 p2 p3 p4 p5 (2 : Int32) (1 : Int32) r0 r1 r2 r3 b) [(.double (4602678819172646912 : UInt64)), (.ref b)]) _
        refine st810.trans ?_
        show GO p e below T810 (mkF m 210 (la5 p0 p1 p2 p3 p4 p5 (2 : Int32) (1 : Int32) r0 r1 r2 r3 b) []) _
        refine st812 _ ?_
        exact kt
      exact ⟨vv_812, T812, h812, _, X812.mono (by decide) (by decide), e812, N812, fun t kt => pre813 t kt⟩
  · -- pc 161: Block.takeFromHead by rm_takef0
    obtain ⟨cq814, kq814, q814a, q814b, q814c⟩ := isOf hZ e789 p789_0
    obtain ⟨_, _, ⟨T814, L814, k814, n814⟩, -, X814, ⟨Lc814, hQ814, l814, y814, z814⟩, st814⟩ := X789.virtualBack hx (y := (⟨kS0, "takeFromHead", "(D)V"⟩ : MethodName)) (z := (⟨kS0, "takeFromHead", "(D)V"⟩ : MethodName)) hown (mvT hZ (wd hw 41 rfl)) (mvT hZ (wd hw 42 rfl)) (notFace_of_selects (args := #[]) (mvT hZ (wd hw 44 rfl))) (mvT hZ (wd hw 44 rfl)) (mvT hZ (wd hw 43 rfl)) (by decide) (backOf (W := 0) (rm_takef0 l Z a0 hw [] b FP.dconst1 (2 : Int32) (FP.dadd (FP.dadd (0 : UInt64) FP.dconst1) FP.dconst1) FP.dconst1 t0 k0 ([(.int p3), (.int (p3 + (1 : Int32))), (.int 0), (.int 0), (.int 0), (.int 0), (.int 0), (.int 0)]) t1 k1 ([(.int p4), (.int p4), (.int 0), (.int 0), (.int 0), (.int 0), (.int 0), (.int 0)]) t2 k2 ([(.double FP.dconst1), (.double FP.dconst1), (.double (0 : UInt64)), (.double (0 : UInt64)), (.double (0 : UInt64)), (.double (0 : UInt64)), (.double (0 : UInt64)), (.double (0 : UInt64))]) t3 k3 ([(.int (nar .boolean r0)), (.int (nar .boolean r1)), (.int 0), (.int 0), (.int 0), (.int 0), (.int 0), (.int 0)]) h789 n0 (by omega) p789_0 p789_1 p789_2 p789_3 p789_4 f790 p789_6 f791 p789_8 f792 p789_10 f793 rfl rfl rfl rfl (by first | assumption | decide | omega | exact neN (by omega)) (by first | assumption | decide | omega | exact neN (by omega)) (by first | assumption | decide | omega | exact neN (by omega)) (by first | assumption | decide | omega | exact neN (by omega)) (by first | assumption | decide | omega | exact neN (by omega)) rfl (by decide +kernel) (by unfold Jvm.Free.Fl.NoNaN64; decide +kernel)) hZ (wd hw 45 rfl) (wd hw 7 rfl) (by decide) (by decide)) q814a q814c (g := (mkF m 161 (la5 p0 p1 p2 p3 p4 p5 (2 : Int32) (2 : Int32) r0 r1 r2 r3 b) [(.double FP.dconst1), (.ref b)])) rfl (by rw [hml]; rfl) (Steps.refl _) (argsL := [(.double FP.dconst1)]) (rest := []) (lenOf pd_2 rfl) rfl (by show 2 * 0 + _ ≤ _; exact Nat.le_of_eq rfl) (hb hby at_161) (fun _ _ => ⟨rfl, e789, (by decide : 5 + 0 ≤ _), (by decide : 39 + 0 ≤ _)⟩)
    dsimp only [Pt.U, Pt.locs, Pt.cells, Pt.slots] at X814 l814 y814 z814 st814 hQ814
    subst l814 y814 z814
    obtain ⟨h814, e814⟩ : ∃ z, T814.heap = z := ⟨_, rfl⟩
    rw [e814] at hQ814
    obtain ⟨rfl, N814q, K814, p814_0, p814_1, p814_2, p814_3, p814_4, p814_5, p814_6, p814_7, p814_8, p814_9, p814_10, p814_11⟩ := hQ814
    have N814 := Fr.app N789 N814q
    have sz814 : h789.size ≤ h814.size := K814.1
    have lt814_0 := ltA p814_0.lt
    have lt814_5 := ltA p814_5.lt
    have lt814_7 := ltA p814_7.lt
    have lt814_9 := ltA p814_9.lt
    have lt814_11 := ltA p814_11.lt
    have f815 : Fld Z h814 b kS0 "size" "I" (.int 1) := by
      have q := p814_2
      rw [show ((2 : Int32) - (1 : Int32)) = (1 : Int32) from by decide] at q
      exact q
    have f816 : Fld Z h814 b kS0 "content" "D" (.double (if (1 : Int32) = (0 : Int32) then (0 : UInt64) else FP.dsub (FP.dadd (FP.dadd (0 : UInt64) FP.dconst1) FP.dconst1) FP.dconst1)) := by
      have q := p814_3
      rw [show ((2 : Int32) - (1 : Int32)) = (1 : Int32) from by decide] at q
      exact q
    -- pc 173: Block.takeFromHead by rm_takef1
    obtain ⟨cq817, kq817, q817a, q817b, q817c⟩ := isOf hZ e814 p814_0
    obtain ⟨_, _, ⟨T817, L817, k817, n817⟩, -, X817, ⟨Lc817, hQ817, l817, y817, z817⟩, st817⟩ := X814.virtualBack hx (y := (⟨kS0, "takeFromHead", "(D)V"⟩ : MethodName)) (z := (⟨kS0, "takeFromHead", "(D)V"⟩ : MethodName)) hown (mvT hZ (wd hw 41 rfl)) (mvT hZ (wd hw 42 rfl)) (notFace_of_selects (args := #[]) (mvT hZ (wd hw 44 rfl))) (mvT hZ (wd hw 44 rfl)) (mvT hZ (wd hw 43 rfl)) (by decide) (backOf (W := 0) (rm_takef1 l Z a0 hw [] b FP.dconst1 (1 : Int32) (if (1 : Int32) = (0 : Int32) then (0 : UInt64) else FP.dsub (FP.dadd (FP.dadd (0 : UInt64) FP.dconst1) FP.dconst1) FP.dconst1) FP.dconst1 t0 k0 ([(.int p3), (.int (p3 + (1 : Int32))), (.int 0), (.int 0), (.int 0), (.int 0), (.int 0), (.int 0)]) t1 k1 ([(.int p4), (.int p4), (.int 0), (.int 0), (.int 0), (.int 0), (.int 0), (.int 0)]) t2 k2 ([(.double FP.dconst1), (.double FP.dconst1), (.double (0 : UInt64)), (.double (0 : UInt64)), (.double (0 : UInt64)), (.double (0 : UInt64)), (.double (0 : UInt64)), (.double (0 : UInt64))]) t3 k3 ([(.int (nar .boolean r0)), (.int (nar .boolean r1)), (.int 0), (.int 0), (.int 0), (.int 0), (.int 0), (.int 0)]) h814 n0 (by omega) p814_0 p814_1 f815 f816 p814_4 p814_5 p814_6 p814_7 p814_8 p814_9 p814_10 p814_11 rfl rfl rfl rfl (by first | assumption | decide | omega | exact neN (by omega)) (by first | assumption | decide | omega | exact neN (by omega)) (by first | assumption | decide | omega | exact neN (by omega)) (by first | assumption | decide | omega | exact neN (by omega)) (by first | assumption | decide | omega | exact neN (by omega)) rfl (by decide +kernel) (by unfold Jvm.Free.Fl.NoNaN64; decide +kernel)) hZ (wd hw 45 rfl) (wd hw 7 rfl) (by decide) (by decide)) q817a q817c (g := (mkF m 173 (la5 p0 p1 p2 p3 p4 p5 (2 : Int32) (2 : Int32) r0 r1 r2 r3 b) [(.double FP.dconst1), (.ref b)])) rfl (by rw [hml]; rfl) (Steps.refl _) (argsL := [(.double FP.dconst1)]) (rest := []) (lenOf pd_2 rfl) rfl (by show 2 * 0 + _ ≤ _; exact Nat.le_of_eq rfl) (hb hby at_173) (fun _ _ => ⟨rfl, e814, (by decide : 5 + 0 ≤ _), (by decide : 39 + 0 ≤ _)⟩)
    dsimp only [Pt.U, Pt.locs, Pt.cells, Pt.slots] at X817 l817 y817 z817 st817 hQ817
    subst l817 y817 z817
    obtain ⟨h817, e817⟩ : ∃ z, T817.heap = z := ⟨_, rfl⟩
    rw [e817] at hQ817
    obtain ⟨rfl, N817q, K817, p817_0, p817_1, p817_2, p817_3, p817_4, p817_5, p817_6, p817_7, p817_8, p817_9, p817_10, p817_11⟩ := hQ817
    have N817 := Fr.app N814 N817q
    have sz817 : h814.size ≤ h817.size := K817.1
    have lt817_0 := ltA p817_0.lt
    have lt817_5 := ltA p817_5.lt
    have lt817_7 := ltA p817_7.lt
    have lt817_9 := ltA p817_9.lt
    have lt817_11 := ltA p817_11.lt
    have f818 : Fld Z h817 b kS0 "size" "I" (.int 0) := by
      have q := p817_2
      rw [show ((1 : Int32) - (1 : Int32)) = (0 : Int32) from by decide] at q
      exact q
    have f819 : Fld Z h817 b kS0 "content" "D" (.double (if (0 : Int32) = (0 : Int32) then (0 : UInt64) else FP.dsub (if (1 : Int32) = (0 : Int32) then (0 : UInt64) else FP.dsub (FP.dadd (FP.dadd (0 : UInt64) FP.dconst1) FP.dconst1) FP.dconst1) FP.dconst1)) := by
      have q := p817_3
      rw [show ((1 : Int32) - (1 : Int32)) = (0 : Int32) from by decide] at q
      exact q
    obtain ⟨vv_820, T820, h820, L820, X820, e820, N820, st820⟩ := tail_2_2 p0 p1 p2 p3 p4 p5 r0 r1 r2 r3 b t3 k3 X817 hx hZ hw hby hml hown e817 N817 (by omega) p817_0 p817_1 f818 p817_10 p817_11 (by first | assumption | decide | omega | exact neN (by omega)) (by first | assumption | decide | omega | exact neN (by omega)) (by first | assumption | decide | omega | exact neN (by omega)) (by first | assumption | decide | omega | exact neN (by omega))
    have pre821 : ∀ t, Steps p.tables e below (T820.setTop (mkF m 298 (la6 p0 p1 p2 p3 p4 p5 (2 : Int32) (2 : Int32) r0 r1 r2 r3 b vv_820) [(.int 1)])) t → Steps p.tables e below (T0.setTop (mkF m 80 (la5 p0 p1 p2 p3 p4 p5 (2 : Int32) (2 : Int32) r0 r1 r2 r3 b) [])) t := by
      intro t kt
      refine pre794 t ?_
      show GO p e below T789 (mkF m 153 (la5 p0 p1 p2 p3 p4 p5 (2 : Int32) (2 : Int32) r0 r1 r2 r3 b) []) _
      refine XS.iload X789.here hx rfl (hb hby at_153) rfl ?_
      show GO p e below T789 (mkF m 155 (la5 p0 p1 p2 p3 p4 p5 (2 : Int32) (2 : Int32) r0 r1 r2 r3 b) [(.int 2)]) _
      refine XS.ifNo X789.here hx rfl (hb hby at_155) rfl ((if0 _ _).trans (tlt ((by decide) : (0 : Int32) < (2 : Int32))).2.2.2) ?_
      show GO p e below T789 (mkF m 158 (la5 p0 p1 p2 p3 p4 p5 (2 : Int32) (2 : Int32) r0 r1 r2 r3 b) []) _
      refine XS.aload X789.here hx rfl (hb hby at_158) rfl rfl ?_
      show GO p e below T789 (mkF m 160 (la5 p0 p1 p2 p3 p4 p5 (2 : Int32) (2 : Int32) r0 r1 r2 r3 b) [(.ref b)]) _
      refine XS.dconst1 X789.here hx rfl (hb hby at_160) rfl ?_
      show GO p e below T789 (mkF m 161 (la5 p0 p1 p2 p3 p4 p5 (2 : Int32) (2 : Int32) r0 r1 r2 r3 b) [(.double FP.dconst1), (.ref b)]) _
      refine st814.trans ?_
      show GO p e below T814 (mkF m 164 (la5 p0 p1 p2 p3 p4 p5 (2 : Int32) (2 : Int32) r0 r1 r2 r3 b) []) _
      refine XS.iload X814.here hx rfl (hb hby at_164) rfl ?_
      show GO p e below T814 (mkF m 166 (la5 p0 p1 p2 p3 p4 p5 (2 : Int32) (2 : Int32) r0 r1 r2 r3 b) [(.int 2)]) _
      refine XS.iconst X814.here hx rfl (hb hby at_166) ?_
      show GO p e below T814 (mkF m 167 (la5 p0 p1 p2 p3 p4 p5 (2 : Int32) (2 : Int32) r0 r1 r2 r3 b) [(.int 1), (.int 2)]) _
      refine XS.icmpNo X814.here hx rfl (hb hby at_167) rfl (tlt ((by decide) : (1 : Int32) < (2 : Int32))).2.2.2 ?_
      show GO p e below T814 (mkF m 170 (la5 p0 p1 p2 p3 p4 p5 (2 : Int32) (2 : Int32) r0 r1 r2 r3 b) []) _
      refine XS.aload X814.here hx rfl (hb hby at_170) rfl rfl ?_
      show GO p e below T814 (mkF m 172 (la5 p0 p1 p2 p3 p4 p5 (2 : Int32) (2 : Int32) r0 r1 r2 r3 b) [(.ref b)]) _
      refine XS.dconst1 X814.here hx rfl (hb hby at_172) rfl ?_
      show GO p e below T814 (mkF m 173 (la5 p0 p1 p2 p3 p4 p5 (2 : Int32) (2 : Int32) r0 r1 r2 r3 b) [(.double FP.dconst1), (.ref b)]) _
      refine st817.trans ?_
      show GO p e below T817 (mkF m 176 (la5 p0 p1 p2 p3 p4 p5 (2 : Int32) (2 : Int32) r0 r1 r2 r3 b) []) _
      refine XS.iload X817.here hx rfl (hb hby at_176) rfl ?_
      show GO p e below T817 (mkF m 178 (la5 p0 p1 p2 p3 p4 p5 (2 : Int32) (2 : Int32) r0 r1 r2 r3 b) [(.int 2)]) _
      refine XS.iconst X817.here hx rfl (hb hby at_178) ?_
      show GO p e below T817 (mkF m 179 (la5 p0 p1 p2 p3 p4 p5 (2 : Int32) (2 : Int32) r0 r1 r2 r3 b) [(.int 2), (.int 2)]) _
      refine XS.icmpYes X817.here hx rfl (pc0 := 179) (pc' := 188) rfl (hb hby at_179) rfl (flt ((by decide) : ¬ ((2 : Int32) < (2 : Int32)))).2.2.2 (by decide) (by decide) ?_
      show GO p e below T817 (mkF m 188 (la5 p0 p1 p2 p3 p4 p5 (2 : Int32) (2 : Int32) r0 r1 r2 r3 b) []) _
      refine XS.iload X817.here hx rfl (hb hby at_188) rfl ?_
      show GO p e below T817 (mkF m 190 (la5 p0 p1 p2 p3 p4 p5 (2 : Int32) (2 : Int32) r0 r1 r2 r3 b) [(.int 2)]) _
      refine XS.iload X817.here hx rfl (hb hby at_190) rfl ?_
      show GO p e below T817 (mkF m 192 (la5 p0 p1 p2 p3 p4 p5 (2 : Int32) (2 : Int32) r0 r1 r2 r3 b) [(.int 2), (.int 2)]) _
      refine XS.icmpYes X817.here hx rfl (pc0 := 192) (pc' := 210) rfl (hb hby at_192) rfl (flt ((by decide) : ¬ ((2 : Int32) < (2 : Int32)))).2.1 (by decide) (by decide) ?_
      show GO p e below T817 (mkF m 210 (la5 p0 p1 p2 p3 p4 p5 (2 : Int32) (2 : Int32) r0 r1 r2 r3 b) []) _
      refine st820 _ ?_
      exact kt
    exact ⟨vv_820, T820, h820, _, X820.mono (by decide) (by decide), e820, N820, fun t kt => pre821 t kt⟩
set_option maxRecDepth 65536 in
set_option maxHeartbeats 40000000 in
theorem seg_3 {p : Program} {l : Launch} {e : Env} {s : State} {m : MethodId} {args : Array Value} {below : List Frame} {meth : Method} {c : Code} {T0 : State} {locs : List Loc} {Z : State} {a0 : Array Value} (p0 : Int32) (p1 : Int32) (p2 : Int32) (p3 : Int32) (p4 : Int32) (p5 : Int32) (kk : Int32) (r0 : Int32) (r1 : Int32) (r2 : Int32) (r3 : Int32) (b : Addr) (t0 : Addr) (t1 : Addr) (t2 : Addr) (t3 : Addr) (k0 : ClassId) (k1 : ClassId) (k2 : ClassId) (k3 : ClassId) {h0 : Heap} {n0 : Nat}
    (X0 : Stand p l e room_1 s m args below meth c T0 locs 5 39) (hx : p.tables.exec = Jvm.exec) (hZ : Z.Warmed39 s.vm) (hw : ∀ d ∈ tables_1, d.before a0 Z = true) (hby : c.code = code) (hml : c.maxLocals = 14) (hown : s.vm.findClass "com/example/occupancy/occupancy/loading/BlockHoldsRearPinLaw" = some m.cls) (e0 : T0.heap = h0) (N0 : Fr n0 locs) (Z0 : n0 ≤ h0.size) (E1 : Exa Z h0 b kS0) (Fh : Fld Z h0 b kS0 "head" "I" (.int 0)) (Fs : Fld Z h0 b kS0 "size" "I" (.int 0)) (Fc : Fld Z h0 b kS0 "content" "D" (.double (0 : UInt64))) (F0 : Fld Z h0 b kS0 "agents" "[I" (.ref t0)) (V0 : Arv Z h0 t0 k0 .int (8 : Int32) [(.int 0), (.int 0), (.int 0), (.int 0), (.int 0), (.int 0), (.int 0), (.int 0)] (.int 0)) (F1 : Fld Z h0 b kS0 "legs" "[I" (.ref t1)) (V1 : Arv Z h0 t1 k1 .int (8 : Int32) [(.int 0), (.int 0), (.int 0), (.int 0), (.int 0), (.int 0), (.int 0), (.int 0)] (.int 0)) (F2 : Fld Z h0 b kS0 "amounts" "[D" (.ref t2)) (V2 : Arv Z h0 t2 k2 .double (8 : Int32) [(.double (0 : UInt64)), (.double (0 : UInt64)), (.double (0 : UInt64)), (.double (0 : UInt64)), (.double (0 : UInt64)), (.double (0 : UInt64)), (.double (0 : UInt64)), (.double (0 : UInt64))] (.double (0 : UInt64))) (F3 : Fld Z h0 b kS0 "rears" "[Z" (.ref t3)) (V3 : Arv Z h0 t3 k3 .boolean (8 : Int32) [(.int 0), (.int 0), (.int 0), (.int 0), (.int 0), (.int 0), (.int 0), (.int 0)] (.int 0)) (o1 : LT.lt (α := Nat) b t0) (o2 : LT.lt (α := Nat) t0 t1) (o3 : LT.lt (α := Nat) t1 t2) (o4 : LT.lt (α := Nat) t2 t3) (g1 : n0 ≤ b) (hk : kk = (0 : Int32) ∨ kk = (1 : Int32) ∨ kk = (2 : Int32) ∨ kk = (3 : Int32)) (hb0 : nar .boolean r0 = r0) (hb1 : nar .boolean r1 = r1) (hb2 : nar .boolean r2 = r2) (hb3 : nar .boolean r3 = r3) :
    ∃ vv : Int32, ∃ (T' : State) (h' : Heap) (locs' : List Loc), Stand p l e room_1 s m args below meth c T' locs' 5 39 ∧ T'.heap = h' ∧ Fr n0 locs' ∧
      ∀ target, Steps p.tables e below (T'.setTop (mkF m 298 #[.val (.int p0), .val (.int p1), .val (.int p2), .val (.int p3), .val (.int p4), .val (.int p5), .val (.int 3), .val (.int kk), .val (.int r0), .val (.int r1), .val (.int r2), .val (.int r3), .val (.ref b), .val (.int vv)] [(.int 1)])) target → Steps p.tables e below (T0.setTop (mkF m 80 (la5 p0 p1 p2 p3 p4 p5 (3 : Int32) kk r0 r1 r2 r3 b) [])) target := by
  have pre0 : ∀ t, Steps p.tables e below (T0.setTop (mkF m 80 (la5 p0 p1 p2 p3 p4 p5 (3 : Int32) kk r0 r1 r2 r3 b) [])) t → Steps p.tables e below (T0.setTop (mkF m 80 (la5 p0 p1 p2 p3 p4 p5 (3 : Int32) kk r0 r1 r2 r3 b) [])) t := fun _ k => k
  have lt_E1 := ltA E1.lt
  have lt_Fh := ltA Fh.lt
  have lt_Fs := ltA Fs.lt
  have lt_Fc := ltA Fc.lt
  have lt_F0 := ltA F0.lt
  have lt_V0 := ltA V0.lt
  have lt_F1 := ltA F1.lt
  have lt_V1 := ltA V1.lt
  have lt_F2 := ltA F2.lt
  have lt_V2 := ltA V2.lt
  have lt_F3 := ltA F3.lt
  have lt_V3 := ltA V3.lt
  -- pc 93: Block.add by rm_add0
  obtain ⟨cq822, kq822, q822a, q822b, q822c⟩ := isOf hZ e0 E1
  obtain ⟨_, _, ⟨T822, L822, k822, n822⟩, -, X822, ⟨Lc822, hQ822, l822, y822, z822⟩, st822⟩ := X0.virtualBack hx (y := (⟨kS0, "add", "(IIDZ)V"⟩ : MethodName)) (z := (⟨kS0, "add", "(IIDZ)V"⟩ : MethodName)) hown (mvT hZ (wd hw 32 rfl)) (mvT hZ (wd hw 33 rfl)) (notFace_of_selects (args := #[]) (mvT hZ (wd hw 35 rfl))) (mvT hZ (wd hw 35 rfl)) (mvT hZ (wd hw 34 rfl)) (by decide) (backOf (W := 0) (rm_add0 l Z a0 hw [] b p3 p4 FP.dconst1 r0 (0 : UInt64) t0 k0 ([(.int 0), (.int 0), (.int 0), (.int 0), (.int 0), (.int 0), (.int 0), (.int 0)]) t1 k1 ([(.int 0), (.int 0), (.int 0), (.int 0), (.int 0), (.int 0), (.int 0), (.int 0)]) t2 k2 ([(.double (0 : UInt64)), (.double (0 : UInt64)), (.double (0 : UInt64)), (.double (0 : UInt64)), (.double (0 : UInt64)), (.double (0 : UInt64)), (.double (0 : UInt64)), (.double (0 : UInt64))]) t3 k3 ([(.int 0), (.int 0), (.int 0), (.int 0), (.int 0), (.int 0), (.int 0), (.int 0)]) h0 n0 (by omega) E1 Fh Fs Fc F0 V0 F1 V1 F2 V2 F3 V3 rfl rfl rfl rfl (by first | assumption | decide | omega | exact neN (by omega)) (by first | assumption | decide | omega | exact neN (by omega)) (by first | assumption | decide | omega | exact neN (by omega)) (by first | assumption | decide | omega | exact neN (by omega)) (by first | assumption | decide | omega | exact neN (by omega)) (by unfold Jvm.Free.Fl.NoNaN64; decide +kernel)) hZ (wd hw 36 rfl) (wd hw 7 rfl) (by decide) (by decide)) q822a q822c (g := (mkF m 93 (la5 p0 p1 p2 p3 p4 p5 (3 : Int32) kk r0 r1 r2 r3 b) [(.int r0), (.double FP.dconst1), (.int p4), (.int p3), (.ref b)])) rfl (by rw [hml]; rfl) (Steps.refl _) (argsL := [(.int p3), (.int p4), (.double FP.dconst1), (.int r0)]) (rest := []) (lenOf pd_1 rfl) rfl (by show 2 * 0 + _ ≤ _; exact Nat.le_of_eq rfl) (hb hby at_93) (fun _ _ => ⟨rfl, e0, (by decide : 5 + 0 ≤ _), (by decide : 39 + 0 ≤ _)⟩)
  dsimp only [Pt.U, Pt.locs, Pt.cells, Pt.slots] at X822 l822 y822 z822 st822 hQ822
  subst l822 y822 z822
  obtain ⟨h822, e822⟩ : ∃ z, T822.heap = z := ⟨_, rfl⟩
  rw [e822] at hQ822
  obtain ⟨rfl, N822q, K822, p822_0, p822_1, p822_2, p822_3, p822_4, p822_5, p822_6, p822_7, p822_8, p822_9, p822_10, p822_11⟩ := hQ822
  have N822 := Fr.app N0 N822q
  have sz822 : h0.size ≤ h822.size := K822.1
  have lt822_0 := ltA p822_0.lt
  have lt822_5 := ltA p822_5.lt
  have lt822_7 := ltA p822_7.lt
  have lt822_9 := ltA p822_9.lt
  have lt822_11 := ltA p822_11.lt
  have f823 : Arv Z h822 t0 k0 .int (8 : Int32) [(.int p3), (.int 0), (.int 0), (.int 0), (.int 0), (.int 0), (.int 0), (.int 0)] (.int 0) := by
    have q := p822_5
    exact q
  have f824 : Arv Z h822 t1 k1 .int (8 : Int32) [(.int p4), (.int 0), (.int 0), (.int 0), (.int 0), (.int 0), (.int 0), (.int 0)] (.int 0) := by
    have q := p822_7
    exact q
  have f825 : Arv Z h822 t2 k2 .double (8 : Int32) [(.double FP.dconst1), (.double (0 : UInt64)), (.double (0 : UInt64)), (.double (0 : UInt64)), (.double (0 : UInt64)), (.double (0 : UInt64)), (.double (0 : UInt64)), (.double (0 : UInt64))] (.double (0 : UInt64)) := by
    have q := p822_9
    exact q
  have f826 : Arv Z h822 t3 k3 .boolean (8 : Int32) [(.int (nar .boolean r0)), (.int 0), (.int 0), (.int 0), (.int 0), (.int 0), (.int 0), (.int 0)] (.int 0) := by
    have q := p822_11
    exact q
  -- pc 112: Block.add by rm_add1
  obtain ⟨cq827, kq827, q827a, q827b, q827c⟩ := isOf hZ e822 p822_0
  obtain ⟨_, _, ⟨T827, L827, k827, n827⟩, -, X827, ⟨Lc827, hQ827, l827, y827, z827⟩, st827⟩ := X822.virtualBack hx (y := (⟨kS0, "add", "(IIDZ)V"⟩ : MethodName)) (z := (⟨kS0, "add", "(IIDZ)V"⟩ : MethodName)) hown (mvT hZ (wd hw 32 rfl)) (mvT hZ (wd hw 33 rfl)) (notFace_of_selects (args := #[]) (mvT hZ (wd hw 35 rfl))) (mvT hZ (wd hw 35 rfl)) (mvT hZ (wd hw 34 rfl)) (by decide) (backOf (W := 0) (rm_add1 l Z a0 hw [] b (p3 + (1 : Int32)) p4 FP.dconst1 r1 (FP.dadd (0 : UInt64) FP.dconst1) t0 k0 ([(.int p3), (.int 0), (.int 0), (.int 0), (.int 0), (.int 0), (.int 0), (.int 0)]) t1 k1 ([(.int p4), (.int 0), (.int 0), (.int 0), (.int 0), (.int 0), (.int 0), (.int 0)]) t2 k2 ([(.double FP.dconst1), (.double (0 : UInt64)), (.double (0 : UInt64)), (.double (0 : UInt64)), (.double (0 : UInt64)), (.double (0 : UInt64)), (.double (0 : UInt64)), (.double (0 : UInt64))]) t3 k3 ([(.int (nar .boolean r0)), (.int 0), (.int 0), (.int 0), (.int 0), (.int 0), (.int 0), (.int 0)]) p3 h822 n0 (by omega) p822_0 p822_1 p822_2 p822_3 p822_4 f823 p822_6 f824 p822_8 f825 p822_10 f826 rfl rfl rfl rfl (by first | assumption | decide | omega | exact neN (by omega)) (by first | assumption | decide | omega | exact neN (by omega)) (by first | assumption | decide | omega | exact neN (by omega)) (by first | assumption | decide | omega | exact neN (by omega)) (by first | assumption | decide | omega | exact neN (by omega)) (by unfold Jvm.Free.Fl.NoNaN64; decide +kernel) rfl (own_ag1 p3)) hZ (wd hw 36 rfl) (wd hw 7 rfl) (by decide) (by decide)) q827a q827c (g := (mkF m 112 (la5 p0 p1 p2 p3 p4 p5 (3 : Int32) kk r0 r1 r2 r3 b) [(.int r1), (.double FP.dconst1), (.int p4), (.int (p3 + (1 : Int32))), (.ref b)])) rfl (by rw [hml]; rfl) (Steps.refl _) (argsL := [(.int (p3 + (1 : Int32))), (.int p4), (.double FP.dconst1), (.int r1)]) (rest := []) (lenOf pd_1 rfl) rfl (by show 2 * 0 + _ ≤ _; exact Nat.le_of_eq rfl) (hb hby at_112) (fun _ _ => ⟨rfl, e822, (by decide : 5 + 0 ≤ _), (by decide : 39 + 0 ≤ _)⟩)
  dsimp only [Pt.U, Pt.locs, Pt.cells, Pt.slots] at X827 l827 y827 z827 st827 hQ827
  subst l827 y827 z827
  obtain ⟨h827, e827⟩ : ∃ z, T827.heap = z := ⟨_, rfl⟩
  rw [e827] at hQ827
  obtain ⟨rfl, N827q, K827, p827_0, p827_1, p827_2, p827_3, p827_4, p827_5, p827_6, p827_7, p827_8, p827_9, p827_10, p827_11⟩ := hQ827
  have N827 := Fr.app N822 N827q
  have sz827 : h822.size ≤ h827.size := K827.1
  have lt827_0 := ltA p827_0.lt
  have lt827_5 := ltA p827_5.lt
  have lt827_7 := ltA p827_7.lt
  have lt827_9 := ltA p827_9.lt
  have lt827_11 := ltA p827_11.lt
  have f828 : Arv Z h827 t0 k0 .int (8 : Int32) [(.int p3), (.int (p3 + (1 : Int32))), (.int 0), (.int 0), (.int 0), (.int 0), (.int 0), (.int 0)] (.int 0) := by
    have q := p827_5
    exact q
  have f829 : Arv Z h827 t1 k1 .int (8 : Int32) [(.int p4), (.int p4), (.int 0), (.int 0), (.int 0), (.int 0), (.int 0), (.int 0)] (.int 0) := by
    have q := p827_7
    exact q
  have f830 : Arv Z h827 t2 k2 .double (8 : Int32) [(.double FP.dconst1), (.double FP.dconst1), (.double (0 : UInt64)), (.double (0 : UInt64)), (.double (0 : UInt64)), (.double (0 : UInt64)), (.double (0 : UInt64)), (.double (0 : UInt64))] (.double (0 : UInt64)) := by
    have q := p827_9
    exact q
  have f831 : Arv Z h827 t3 k3 .boolean (8 : Int32) [(.int (nar .boolean r0)), (.int (nar .boolean r1)), (.int 0), (.int 0), (.int 0), (.int 0), (.int 0), (.int 0)] (.int 0) := by
    have q := p827_11
    exact q
  -- pc 131: Block.add by rm_add2
  obtain ⟨cq832, kq832, q832a, q832b, q832c⟩ := isOf hZ e827 p827_0
  obtain ⟨_, _, ⟨T832, L832, k832, n832⟩, -, X832, ⟨Lc832, hQ832, l832, y832, z832⟩, st832⟩ := X827.virtualBack hx (y := (⟨kS0, "add", "(IIDZ)V"⟩ : MethodName)) (z := (⟨kS0, "add", "(IIDZ)V"⟩ : MethodName)) hown (mvT hZ (wd hw 32 rfl)) (mvT hZ (wd hw 33 rfl)) (notFace_of_selects (args := #[]) (mvT hZ (wd hw 35 rfl))) (mvT hZ (wd hw 35 rfl)) (mvT hZ (wd hw 34 rfl)) (by decide) (backOf (W := 0) (rm_add2 l Z a0 hw [] b (p3 + (2 : Int32)) p4 FP.dconst1 r2 (FP.dadd (FP.dadd (0 : UInt64) FP.dconst1) FP.dconst1) t0 k0 ([(.int p3), (.int (p3 + (1 : Int32))), (.int 0), (.int 0), (.int 0), (.int 0), (.int 0), (.int 0)]) t1 k1 ([(.int p4), (.int p4), (.int 0), (.int 0), (.int 0), (.int 0), (.int 0), (.int 0)]) t2 k2 ([(.double FP.dconst1), (.double FP.dconst1), (.double (0 : UInt64)), (.double (0 : UInt64)), (.double (0 : UInt64)), (.double (0 : UInt64)), (.double (0 : UInt64)), (.double (0 : UInt64))]) t3 k3 ([(.int (nar .boolean r0)), (.int (nar .boolean r1)), (.int 0), (.int 0), (.int 0), (.int 0), (.int 0), (.int 0)]) (p3 + (1 : Int32)) h827 n0 (by omega) p827_0 p827_1 p827_2 p827_3 p827_4 f828 p827_6 f829 p827_8 f830 p827_10 f831 rfl rfl rfl rfl (by first | assumption | decide | omega | exact neN (by omega)) (by first | assumption | decide | omega | exact neN (by omega)) (by first | assumption | decide | omega | exact neN (by omega)) (by first | assumption | decide | omega | exact neN (by omega)) (by first | assumption | decide | omega | exact neN (by omega)) (by unfold Jvm.Free.Fl.NoNaN64; decide +kernel) rfl (own_ag2 p3)) hZ (wd hw 36 rfl) (wd hw 7 rfl) (by decide) (by decide)) q832a q832c (g := (mkF m 131 (la5 p0 p1 p2 p3 p4 p5 (3 : Int32) kk r0 r1 r2 r3 b) [(.int r2), (.double FP.dconst1), (.int p4), (.int (p3 + (2 : Int32))), (.ref b)])) rfl (by rw [hml]; rfl) (Steps.refl _) (argsL := [(.int (p3 + (2 : Int32))), (.int p4), (.double FP.dconst1), (.int r2)]) (rest := []) (lenOf pd_1 rfl) rfl (by show 2 * 0 + _ ≤ _; exact Nat.le_of_eq rfl) (hb hby at_131) (fun _ _ => ⟨rfl, e827, (by decide : 5 + 0 ≤ _), (by decide : 39 + 0 ≤ _)⟩)
  dsimp only [Pt.U, Pt.locs, Pt.cells, Pt.slots] at X832 l832 y832 z832 st832 hQ832
  subst l832 y832 z832
  obtain ⟨h832, e832⟩ : ∃ z, T832.heap = z := ⟨_, rfl⟩
  rw [e832] at hQ832
  obtain ⟨rfl, N832q, K832, p832_0, p832_1, p832_2, p832_3, p832_4, p832_5, p832_6, p832_7, p832_8, p832_9, p832_10, p832_11⟩ := hQ832
  have N832 := Fr.app N827 N832q
  have sz832 : h827.size ≤ h832.size := K832.1
  have lt832_0 := ltA p832_0.lt
  have lt832_5 := ltA p832_5.lt
  have lt832_7 := ltA p832_7.lt
  have lt832_9 := ltA p832_9.lt
  have lt832_11 := ltA p832_11.lt
  have f833 : Arv Z h832 t0 k0 .int (8 : Int32) [(.int p3), (.int (p3 + (1 : Int32))), (.int (p3 + (2 : Int32))), (.int 0), (.int 0), (.int 0), (.int 0), (.int 0)] (.int 0) := by
    have q := p832_5
    exact q
  have f834 : Arv Z h832 t1 k1 .int (8 : Int32) [(.int p4), (.int p4), (.int p4), (.int 0), (.int 0), (.int 0), (.int 0), (.int 0)] (.int 0) := by
    have q := p832_7
    exact q
  have f835 : Arv Z h832 t2 k2 .double (8 : Int32) [(.double FP.dconst1), (.double FP.dconst1), (.double FP.dconst1), (.double (0 : UInt64)), (.double (0 : UInt64)), (.double (0 : UInt64)), (.double (0 : UInt64)), (.double (0 : UInt64))] (.double (0 : UInt64)) := by
    have q := p832_9
    exact q
  have f836 : Arv Z h832 t3 k3 .boolean (8 : Int32) [(.int (nar .boolean r0)), (.int (nar .boolean r1)), (.int (nar .boolean r2)), (.int 0), (.int 0), (.int 0), (.int 0), (.int 0)] (.int 0) := by
    have q := p832_11
    exact q
  have pre837 : ∀ t, Steps p.tables e below (T832.setTop (mkF m 153 (la5 p0 p1 p2 p3 p4 p5 (3 : Int32) kk r0 r1 r2 r3 b) [])) t → Steps p.tables e below (T0.setTop (mkF m 80 (la5 p0 p1 p2 p3 p4 p5 (3 : Int32) kk r0 r1 r2 r3 b) [])) t := by
    intro t kt
    refine pre0 t ?_
    show GO p e below T0 (mkF m 80 (la5 p0 p1 p2 p3 p4 p5 (3 : Int32) kk r0 r1 r2 r3 b) []) _
    refine XS.iload X0.here hx rfl (hb hby at_80) rfl ?_
    show GO p e below T0 (mkF m 82 (la5 p0 p1 p2 p3 p4 p5 (3 : Int32) kk r0 r1 r2 r3 b) [(.int 3)]) _
    refine XS.ifNo X0.here hx rfl (hb hby at_82) rfl ((if0 _ _).trans (tlt ((by decide) : (0 : Int32) < (3 : Int32))).2.2.2) ?_
    show GO p e below T0 (mkF m 85 (la5 p0 p1 p2 p3 p4 p5 (3 : Int32) kk r0 r1 r2 r3 b) []) _
    refine XS.aload X0.here hx rfl (hb hby at_85) rfl rfl ?_
    show GO p e below T0 (mkF m 87 (la5 p0 p1 p2 p3 p4 p5 (3 : Int32) kk r0 r1 r2 r3 b) [(.ref b)]) _
    refine XS.iloadN X0.here hx rfl (hb hby at_87) rfl ?_
    show GO p e below T0 (mkF m 88 (la5 p0 p1 p2 p3 p4 p5 (3 : Int32) kk r0 r1 r2 r3 b) [(.int p3), (.ref b)]) _
    refine XS.iload X0.here hx rfl (hb hby at_88) rfl ?_
    show GO p e below T0 (mkF m 90 (la5 p0 p1 p2 p3 p4 p5 (3 : Int32) kk r0 r1 r2 r3 b) [(.int p4), (.int p3), (.ref b)]) _
    refine XS.dconst1 X0.here hx rfl (hb hby at_90) rfl ?_
    show GO p e below T0 (mkF m 91 (la5 p0 p1 p2 p3 p4 p5 (3 : Int32) kk r0 r1 r2 r3 b) [(.double FP.dconst1), (.int p4), (.int p3), (.ref b)]) _
    refine XS.iload X0.here hx rfl (hb hby at_91) rfl ?_
    show GO p e below T0 (mkF m 93 (la5 p0 p1 p2 p3 p4 p5 (3 : Int32) kk r0 r1 r2 r3 b) [(.int r0), (.double FP.dconst1), (.int p4), (.int p3), (.ref b)]) _
    refine st822.trans ?_
    show GO p e below T822 (mkF m 96 (la5 p0 p1 p2 p3 p4 p5 (3 : Int32) kk r0 r1 r2 r3 b) []) _
    refine XS.iload X822.here hx rfl (hb hby at_96) rfl ?_
    show GO p e below T822 (mkF m 98 (la5 p0 p1 p2 p3 p4 p5 (3 : Int32) kk r0 r1 r2 r3 b) [(.int 3)]) _
    refine XS.iconst X822.here hx rfl (hb hby at_98) ?_
    show GO p e below T822 (mkF m 99 (la5 p0 p1 p2 p3 p4 p5 (3 : Int32) kk r0 r1 r2 r3 b) [(.int 1), (.int 3)]) _
    refine XS.icmpNo X822.here hx rfl (hb hby at_99) rfl (tlt ((by decide) : (1 : Int32) < (3 : Int32))).2.2.2 ?_
    show GO p e below T822 (mkF m 102 (la5 p0 p1 p2 p3 p4 p5 (3 : Int32) kk r0 r1 r2 r3 b) []) _
    refine XS.aload X822.here hx rfl (hb hby at_102) rfl rfl ?_
    show GO p e below T822 (mkF m 104 (la5 p0 p1 p2 p3 p4 p5 (3 : Int32) kk r0 r1 r2 r3 b) [(.ref b)]) _
    refine XS.iloadN X822.here hx rfl (hb hby at_104) rfl ?_
    show GO p e below T822 (mkF m 105 (la5 p0 p1 p2 p3 p4 p5 (3 : Int32) kk r0 r1 r2 r3 b) [(.int p3), (.ref b)]) _
    refine XS.iconst X822.here hx rfl (hb hby at_105) ?_
    show GO p e below T822 (mkF m 106 (la5 p0 p1 p2 p3 p4 p5 (3 : Int32) kk r0 r1 r2 r3 b) [(.int 1), (.int p3), (.ref b)]) _
    refine XS.iadd X822.here hx rfl (hb hby at_106) rfl ?_
    show GO p e below T822 (mkF m 107 (la5 p0 p1 p2 p3 p4 p5 (3 : Int32) kk r0 r1 r2 r3 b) [(.int (p3 + (1 : Int32))), (.ref b)]) _
    refine XS.iload X822.here hx rfl (hb hby at_107) rfl ?_
    show GO p e below T822 (mkF m 109 (la5 p0 p1 p2 p3 p4 p5 (3 : Int32) kk r0 r1 r2 r3 b) [(.int p4), (.int (p3 + (1 : Int32))), (.ref b)]) _
    refine XS.dconst1 X822.here hx rfl (hb hby at_109) rfl ?_
    show GO p e below T822 (mkF m 110 (la5 p0 p1 p2 p3 p4 p5 (3 : Int32) kk r0 r1 r2 r3 b) [(.double FP.dconst1), (.int p4), (.int (p3 + (1 : Int32))), (.ref b)]) _
    refine XS.iload X822.here hx rfl (hb hby at_110) rfl ?_
    show GO p e below T822 (mkF m 112 (la5 p0 p1 p2 p3 p4 p5 (3 : Int32) kk r0 r1 r2 r3 b) [(.int r1), (.double FP.dconst1), (.int p4), (.int (p3 + (1 : Int32))), (.ref b)]) _
    refine st827.trans ?_
    show GO p e below T827 (mkF m 115 (la5 p0 p1 p2 p3 p4 p5 (3 : Int32) kk r0 r1 r2 r3 b) []) _
    refine XS.iload X827.here hx rfl (hb hby at_115) rfl ?_
    show GO p e below T827 (mkF m 117 (la5 p0 p1 p2 p3 p4 p5 (3 : Int32) kk r0 r1 r2 r3 b) [(.int 3)]) _
    refine XS.iconst X827.here hx rfl (hb hby at_117) ?_
    show GO p e below T827 (mkF m 118 (la5 p0 p1 p2 p3 p4 p5 (3 : Int32) kk r0 r1 r2 r3 b) [(.int 2), (.int 3)]) _
    refine XS.icmpNo X827.here hx rfl (hb hby at_118) rfl (tlt ((by decide) : (2 : Int32) < (3 : Int32))).2.2.2 ?_
    show GO p e below T827 (mkF m 121 (la5 p0 p1 p2 p3 p4 p5 (3 : Int32) kk r0 r1 r2 r3 b) []) _
    refine XS.aload X827.here hx rfl (hb hby at_121) rfl rfl ?_
    show GO p e below T827 (mkF m 123 (la5 p0 p1 p2 p3 p4 p5 (3 : Int32) kk r0 r1 r2 r3 b) [(.ref b)]) _
    refine XS.iloadN X827.here hx rfl (hb hby at_123) rfl ?_
    show GO p e below T827 (mkF m 124 (la5 p0 p1 p2 p3 p4 p5 (3 : Int32) kk r0 r1 r2 r3 b) [(.int p3), (.ref b)]) _
    refine XS.iconst X827.here hx rfl (hb hby at_124) ?_
    show GO p e below T827 (mkF m 125 (la5 p0 p1 p2 p3 p4 p5 (3 : Int32) kk r0 r1 r2 r3 b) [(.int 2), (.int p3), (.ref b)]) _
    refine XS.iadd X827.here hx rfl (hb hby at_125) rfl ?_
    show GO p e below T827 (mkF m 126 (la5 p0 p1 p2 p3 p4 p5 (3 : Int32) kk r0 r1 r2 r3 b) [(.int (p3 + (2 : Int32))), (.ref b)]) _
    refine XS.iload X827.here hx rfl (hb hby at_126) rfl ?_
    show GO p e below T827 (mkF m 128 (la5 p0 p1 p2 p3 p4 p5 (3 : Int32) kk r0 r1 r2 r3 b) [(.int p4), (.int (p3 + (2 : Int32))), (.ref b)]) _
    refine XS.dconst1 X827.here hx rfl (hb hby at_128) rfl ?_
    show GO p e below T827 (mkF m 129 (la5 p0 p1 p2 p3 p4 p5 (3 : Int32) kk r0 r1 r2 r3 b) [(.double FP.dconst1), (.int p4), (.int (p3 + (2 : Int32))), (.ref b)]) _
    refine XS.iload X827.here hx rfl (hb hby at_129) rfl ?_
    show GO p e below T827 (mkF m 131 (la5 p0 p1 p2 p3 p4 p5 (3 : Int32) kk r0 r1 r2 r3 b) [(.int r2), (.double FP.dconst1), (.int p4), (.int (p3 + (2 : Int32))), (.ref b)]) _
    refine st832.trans ?_
    show GO p e below T832 (mkF m 134 (la5 p0 p1 p2 p3 p4 p5 (3 : Int32) kk r0 r1 r2 r3 b) []) _
    refine XS.iload X832.here hx rfl (hb hby at_134) rfl ?_
    show GO p e below T832 (mkF m 136 (la5 p0 p1 p2 p3 p4 p5 (3 : Int32) kk r0 r1 r2 r3 b) [(.int 3)]) _
    refine XS.iconst X832.here hx rfl (hb hby at_136) ?_
    show GO p e below T832 (mkF m 137 (la5 p0 p1 p2 p3 p4 p5 (3 : Int32) kk r0 r1 r2 r3 b) [(.int 3), (.int 3)]) _
    refine XS.icmpYes X832.here hx rfl (pc0 := 137) (pc' := 153) rfl (hb hby at_137) rfl (flt ((by decide) : ¬ ((3 : Int32) < (3 : Int32)))).2.2.2 (by decide) (by decide) ?_
    exact kt
  rcases hk with rfl | rfl | rfl | rfl
  · have pre838 : ∀ t, Steps p.tables e below (T832.setTop (mkF m 199 (la5 p0 p1 p2 p3 p4 p5 (3 : Int32) (0 : Int32) r0 r1 r2 r3 b) [(.int (p5 &&& (1 : Int32)))])) t → Steps p.tables e below (T0.setTop (mkF m 80 (la5 p0 p1 p2 p3 p4 p5 (3 : Int32) (0 : Int32) r0 r1 r2 r3 b) [])) t := by
      intro t kt
      refine pre837 t ?_
      show GO p e below T832 (mkF m 153 (la5 p0 p1 p2 p3 p4 p5 (3 : Int32) (0 : Int32) r0 r1 r2 r3 b) []) _
      refine XS.iload X832.here hx rfl (hb hby at_153) rfl ?_
      show GO p e below T832 (mkF m 155 (la5 p0 p1 p2 p3 p4 p5 (3 : Int32) (0 : Int32) r0 r1 r2 r3 b) [(.int 0)]) _
      refine XS.ifYes X832.here hx rfl (pc0 := 155) (pc' := 164) rfl (hb hby at_155) rfl ((if0 _ _).trans (flt ((by decide) : ¬ ((0 : Int32) < (0 : Int32)))).2.2.2) (by decide) (by decide) ?_
      show GO p e below T832 (mkF m 164 (la5 p0 p1 p2 p3 p4 p5 (3 : Int32) (0 : Int32) r0 r1 r2 r3 b) []) _
      refine XS.iload X832.here hx rfl (hb hby at_164) rfl ?_
      show GO p e below T832 (mkF m 166 (la5 p0 p1 p2 p3 p4 p5 (3 : Int32) (0 : Int32) r0 r1 r2 r3 b) [(.int 0)]) _
      refine XS.iconst X832.here hx rfl (hb hby at_166) ?_
      show GO p e below T832 (mkF m 167 (la5 p0 p1 p2 p3 p4 p5 (3 : Int32) (0 : Int32) r0 r1 r2 r3 b) [(.int 1), (.int 0)]) _
      refine XS.icmpYes X832.here hx rfl (pc0 := 167) (pc' := 176) rfl (hb hby at_167) rfl (flt ((by decide) : ¬ ((1 : Int32) < (0 : Int32)))).2.2.2 (by decide) (by decide) ?_
      show GO p e below T832 (mkF m 176 (la5 p0 p1 p2 p3 p4 p5 (3 : Int32) (0 : Int32) r0 r1 r2 r3 b) []) _
      refine XS.iload X832.here hx rfl (hb hby at_176) rfl ?_
      show GO p e below T832 (mkF m 178 (la5 p0 p1 p2 p3 p4 p5 (3 : Int32) (0 : Int32) r0 r1 r2 r3 b) [(.int 0)]) _
      refine XS.iconst X832.here hx rfl (hb hby at_178) ?_
      show GO p e below T832 (mkF m 179 (la5 p0 p1 p2 p3 p4 p5 (3 : Int32) (0 : Int32) r0 r1 r2 r3 b) [(.int 2), (.int 0)]) _
      refine XS.icmpYes X832.here hx rfl (pc0 := 179) (pc' := 188) rfl (hb hby at_179) rfl (flt ((by decide) : ¬ ((2 : Int32) < (0 : Int32)))).2.2.2 (by decide) (by decide) ?_
      show GO p e below T832 (mkF m 188 (la5 p0 p1 p2 p3 p4 p5 (3 : Int32) (0 : Int32) r0 r1 r2 r3 b) []) _
      refine XS.iload X832.here hx rfl (hb hby at_188) rfl ?_
      show GO p e below T832 (mkF m 190 (la5 p0 p1 p2 p3 p4 p5 (3 : Int32) (0 : Int32) r0 r1 r2 r3 b) [(.int 0)]) _
      refine XS.iload X832.here hx rfl (hb hby at_190) rfl ?_
      show GO p e below T832 (mkF m 192 (la5 p0 p1 p2 p3 p4 p5 (3 : Int32) (0 : Int32) r0 r1 r2 r3 b) [(.int 3), (.int 0)]) _
      refine XS.icmpNo X832.here hx rfl (hb hby at_192) rfl (tlt ((by decide) : (0 : Int32) < (3 : Int32))).2.1 ?_
      show GO p e below T832 (mkF m 195 (la5 p0 p1 p2 p3 p4 p5 (3 : Int32) (0 : Int32) r0 r1 r2 r3 b) []) _
      refine XS.iload X832.here hx rfl (hb hby at_195) rfl ?_
      show GO p e below T832 (mkF m 197 (la5 p0 p1 p2 p3 p4 p5 (3 : Int32) (0 : Int32) r0 r1 r2 r3 b) [(.int p5)]) _
      refine XS.iconst X832.here hx rfl (hb hby at_197) ?_
      show GO p e below T832 (mkF m 198 (la5 p0 p1 p2 p3 p4 p5 (3 : Int32) (0 : Int32) r0 r1 r2 r3 b) [(.int 1), (.int p5)]) _
      refine XS.iand X832.here hx rfl (hb hby at_198) rfl ?_
      exact kt
    by_cases hb839 : (p5 &&& (1 : Int32)) = (0 : Int32)
    · obtain ⟨vv_840, T840, h840, L840, X840, e840, N840, st840⟩ := tail_3_0 p0 p1 p2 p3 p4 p5 r0 r1 r2 r3 b t3 k3 X832 hx hZ hw hby hml hown e832 N832 (by omega) p832_0 p832_1 p832_2 p832_10 f836 (by first | assumption | decide | omega | exact neN (by omega)) (by first | assumption | decide | omega | exact neN (by omega)) (by first | assumption | decide | omega | exact neN (by omega)) (by first | assumption | decide | omega | exact neN (by omega))
      have pre841 : ∀ t, Steps p.tables e below (T840.setTop (mkF m 298 (la6 p0 p1 p2 p3 p4 p5 (3 : Int32) (0 : Int32) r0 r1 r2 r3 b vv_840) [(.int 1)])) t → Steps p.tables e below (T0.setTop (mkF m 80 (la5 p0 p1 p2 p3 p4 p5 (3 : Int32) (0 : Int32) r0 r1 r2 r3 b) [])) t := by
        intro t kt
        refine pre838 t ?_
        show GO p e below T832 (mkF m 199 (la5 p0 p1 p2 p3 p4 p5 (3 : Int32) (0 : Int32) r0 r1 r2 r3 b) [(.int (p5 &&& (1 : Int32)))]) _
        refine XS.ifYes X832.here hx rfl (pc0 := 199) (pc' := 210) rfl (hb hby at_199) rfl ((if0 _ _).trans (teq (hb839 : (p5 &&& (1 : Int32)) = (0 : Int32))).1) (by decide) (by decide) ?_
        show GO p e below T832 (mkF m 210 (la5 p0 p1 p2 p3 p4 p5 (3 : Int32) (0 : Int32) r0 r1 r2 r3 b) []) _
        refine st840 _ ?_
        exact kt
      exact ⟨vv_840, T840, h840, _, X840.mono (by decide) (by decide), e840, N840, fun t kt => pre841 t kt⟩
    · -- pc 207: Block.takeFromHead by rm_takep0
      obtain ⟨cq842, kq842, q842a, q842b, q842c⟩ := isOf hZ e832 p832_0
      obtain ⟨_, _, ⟨T842, L842, k842, n842⟩, -, X842, ⟨Lc842, hQ842, l842, y842, z842⟩, st842⟩ := X832.virtualBack hx (y := (⟨kS0, "takeFromHead", "(D)V"⟩ : MethodName)) (z := (⟨kS0, "takeFromHead", "(D)V"⟩ : MethodName)) hown (mvT hZ (wd hw 41 rfl)) (mvT hZ (wd hw 42 rfl)) (notFace_of_selects (args := #[]) (mvT hZ (wd hw 44 rfl))) (mvT hZ (wd hw 44 rfl)) (mvT hZ (wd hw 43 rfl)) (by decide) (backOf (W := 0) (rm_takep0 l Z a0 hw [] b (4602678819172646912 : UInt64) (3 : Int32) (FP.dadd (FP.dadd (FP.dadd (0 : UInt64) FP.dconst1) FP.dconst1) FP.dconst1) FP.dconst1 t0 k0 ([(.int p3), (.int (p3 + (1 : Int32))), (.int (p3 + (2 : Int32))), (.int 0), (.int 0), (.int 0), (.int 0), (.int 0)]) t1 k1 ([(.int p4), (.int p4), (.int p4), (.int 0), (.int 0), (.int 0), (.int 0), (.int 0)]) t2 k2 ([(.double FP.dconst1), (.double FP.dconst1), (.double FP.dconst1), (.double (0 : UInt64)), (.double (0 : UInt64)), (.double (0 : UInt64)), (.double (0 : UInt64)), (.double (0 : UInt64))]) t3 k3 ([(.int (nar .boolean r0)), (.int (nar .boolean r1)), (.int (nar .boolean r2)), (.int 0), (.int 0), (.int 0), (.int 0), (.int 0)]) h832 n0 (by omega) p832_0 p832_1 p832_2 p832_3 p832_4 f833 p832_6 f834 p832_8 f835 p832_10 f836 rfl rfl rfl rfl (by first | assumption | decide | omega | exact neN (by omega)) (by first | assumption | decide | omega | exact neN (by omega)) (by first | assumption | decide | omega | exact neN (by omega)) (by first | assumption | decide | omega | exact neN (by omega)) (by first | assumption | decide | omega | exact neN (by omega)) rfl (by decide +kernel) (by unfold Jvm.Free.Fl.NoNaN64; decide +kernel) (by unfold Jvm.Free.Fl.NoNaN64; decide +kernel) (by decide)) hZ (wd hw 45 rfl) (wd hw 7 rfl) (by decide) (by decide)) q842a q842c (g := (mkF m 207 (la5 p0 p1 p2 p3 p4 p5 (3 : Int32) (0 : Int32) r0 r1 r2 r3 b) [(.double (4602678819172646912 : UInt64)), (.ref b)])) rfl (by rw [hml]; rfl) (Steps.refl _) (argsL := [(.double (4602678819172646912 : UInt64))]) (rest := []) (lenOf pd_2 rfl) rfl (by show 2 * 0 + _ ≤ _; exact Nat.le_of_eq rfl) (hb hby at_207) (fun _ _ => ⟨rfl, e832, (by decide : 5 + 0 ≤ _), (by decide : 39 + 0 ≤ _)⟩)
      dsimp only [Pt.U, Pt.locs, Pt.cells, Pt.slots] at X842 l842 y842 z842 st842 hQ842
      subst l842 y842 z842
      obtain ⟨h842, e842⟩ : ∃ z, T842.heap = z := ⟨_, rfl⟩
      rw [e842] at hQ842
      obtain ⟨rfl, N842q, K842, p842_0, p842_1, p842_2, p842_3, p842_4, p842_5, p842_6, p842_7, p842_8, p842_9, p842_10, p842_11⟩ := hQ842
      have N842 := Fr.app N832 N842q
      have sz842 : h832.size ≤ h842.size := K842.1
      have lt842_0 := ltA p842_0.lt
      have lt842_5 := ltA p842_5.lt
      have lt842_7 := ltA p842_7.lt
      have lt842_9 := ltA p842_9.lt
      have lt842_11 := ltA p842_11.lt
      have f843 : Arv Z h842 t2 k2 .double (8 : Int32) [(.double (FP.dsub FP.dconst1 (4602678819172646912 : UInt64))), (.double FP.dconst1), (.double FP.dconst1), (.double (0 : UInt64)), (.double (0 : UInt64)), (.double (0 : UInt64)), (.double (0 : UInt64)), (.double (0 : UInt64))] (.double (0 : UInt64)) := by
        have q := p842_9
        exact q
      obtain ⟨vv_844, T844, h844, L844, X844, e844, N844, st844⟩ := tail_3_0 p0 p1 p2 p3 p4 p5 r0 r1 r2 r3 b t3 k3 X842 hx hZ hw hby hml hown e842 N842 (by omega) p842_0 p842_1 p842_2 p842_10 p842_11 (by first | assumption | decide | omega | exact neN (by omega)) (by first | assumption | decide | omega | exact neN (by omega)) (by first | assumption | decide | omega | exact neN (by omega)) (by first | assumption | decide | omega | exact neN (by omega))
      have pre845 : ∀ t, Steps p.tables e below (T844.setTop (mkF m 298 (la6 p0 p1 p2 p3 p4 p5 (3 : Int32) (0 : Int32) r0 r1 r2 r3 b vv_844) [(.int 1)])) t → Steps p.tables e below (T0.setTop (mkF m 80 (la5 p0 p1 p2 p3 p4 p5 (3 : Int32) (0 : Int32) r0 r1 r2 r3 b) [])) t := by
        intro t kt
        refine pre838 t ?_
        show GO p e below T832 (mkF m 199 (la5 p0 p1 p2 p3 p4 p5 (3 : Int32) (0 : Int32) r0 r1 r2 r3 b) [(.int (p5 &&& (1 : Int32)))]) _
        refine XS.ifNo X832.here hx rfl (hb hby at_199) rfl ((if0 _ _).trans (feq (hb839 : ¬ ((p5 &&& (1 : Int32)) = (0 : Int32)))).1) ?_
        show GO p e below T832 (mkF m 202 (la5 p0 p1 p2 p3 p4 p5 (3 : Int32) (0 : Int32) r0 r1 r2 r3 b) []) _
        refine XS.aload X832.here hx rfl (hb hby at_202) rfl rfl ?_
        show GO p e below T832 (mkF m 204 (la5 p0 p1 p2 p3 p4 p5 (3 : Int32) (0 : Int32) r0 r1 r2 r3 b) [(.ref b)]) _
        refine X832.ldc2DoubleC hx hown (mvT hZ (wd hw 46 rfl)) (g := (mkF m 204 (la5 p0 p1 p2 p3 p4 p5 (3 : Int32) (0 : Int32) r0 r1 r2 r3 b) [(.ref b)])) rfl (hb hby at_204) _ ?_
        show GO p e below T832 (mkF m 207 (la5 p0 p1 p2 p3 p4 p5 (3 : Int32) (0 : Int32) r0 r1 r2 r3 b) [(.double (4602678819172646912 : UInt64)), (.ref b)]) _
        refine st842.trans ?_
        show GO p e below T842 (mkF m 210 (la5 p0 p1 p2 p3 p4 p5 (3 : Int32) (0 : Int32) r0 r1 r2 r3 b) []) _
        refine st844 _ ?_
        exact kt
      exact ⟨vv_844, T844, h844, _, X844.mono (by decide) (by decide), e844, N844, fun t kt => pre845 t kt⟩
  · -- pc 161: Block.takeFromHead by rm_takef0
    obtain ⟨cq846, kq846, q846a, q846b, q846c⟩ := isOf hZ e832 p832_0
    obtain ⟨_, _, ⟨T846, L846, k846, n846⟩, -, X846, ⟨Lc846, hQ846, l846, y846, z846⟩, st846⟩ := X832.virtualBack hx (y := (⟨kS0, "takeFromHead", "(D)V"⟩ : MethodName)) (z := (⟨kS0, "takeFromHead", "(D)V"⟩ : MethodName)) hown (mvT hZ (wd hw 41 rfl)) (mvT hZ (wd hw 42 rfl)) (notFace_of_selects (args := #[]) (mvT hZ (wd hw 44 rfl))) (mvT hZ (wd hw 44 rfl)) (mvT hZ (wd hw 43 rfl)) (by decide) (backOf (W := 0) (rm_takef0 l Z a0 hw [] b FP.dconst1 (3 : Int32) (FP.dadd (FP.dadd (FP.dadd (0 : UInt64) FP.dconst1) FP.dconst1) FP.dconst1) FP.dconst1 t0 k0 ([(.int p3), (.int (p3 + (1 : Int32))), (.int (p3 + (2 : Int32))), (.int 0), (.int 0), (.int 0), (.int 0), (.int 0)]) t1 k1 ([(.int p4), (.int p4), (.int p4), (.int 0), (.int 0), (.int 0), (.int 0), (.int 0)]) t2 k2 ([(.double FP.dconst1), (.double FP.dconst1), (.double FP.dconst1), (.double (0 : UInt64)), (.double (0 : UInt64)), (.double (0 : UInt64)), (.double (0 : UInt64)), (.double (0 : UInt64))]) t3 k3 ([(.int (nar .boolean r0)), (.int (nar .boolean r1)), (.int (nar .boolean r2)), (.int 0), (.int 0), (.int 0), (.int 0), (.int 0)]) h832 n0 (by omega) p832_0 p832_1 p832_2 p832_3 p832_4 f833 p832_6 f834 p832_8 f835 p832_10 f836 rfl rfl rfl rfl (by first | assumption | decide | omega | exact neN (by omega)) (by first | assumption | decide | omega | exact neN (by omega)) (by first | assumption | decide | omega | exact neN (by omega)) (by first | assumption | decide | omega | exact neN (by omega)) (by first | assumption | decide | omega | exact neN (by omega)) rfl (by decide +kernel) (by unfold Jvm.Free.Fl.NoNaN64; decide +kernel)) hZ (wd hw 45 rfl) (wd hw 7 rfl) (by decide) (by decide)) q846a q846c (g := (mkF m 161 (la5 p0 p1 p2 p3 p4 p5 (3 : Int32) (1 : Int32) r0 r1 r2 r3 b) [(.double FP.dconst1), (.ref b)])) rfl (by rw [hml]; rfl) (Steps.refl _) (argsL := [(.double FP.dconst1)]) (rest := []) (lenOf pd_2 rfl) rfl (by show 2 * 0 + _ ≤ _; exact Nat.le_of_eq rfl) (hb hby at_161) (fun _ _ => ⟨rfl, e832, (by decide : 5 + 0 ≤ _), (by decide : 39 + 0 ≤ _)⟩)
    dsimp only [Pt.U, Pt.locs, Pt.cells, Pt.slots] at X846 l846 y846 z846 st846 hQ846
    subst l846 y846 z846
    obtain ⟨h846, e846⟩ : ∃ z, T846.heap = z := ⟨_, rfl⟩
    rw [e846] at hQ846
    obtain ⟨rfl, N846q, K846, p846_0, p846_1, p846_2, p846_3, p846_4, p846_5, p846_6, p846_7, p846_8, p846_9, p846_10, p846_11⟩ := hQ846
    have N846 := Fr.app N832 N846q
    have sz846 : h832.size ≤ h846.size := K846.1
    have lt846_0 := ltA p846_0.lt
    have lt846_5 := ltA p846_5.lt
    have lt846_7 := ltA p846_7.lt
    have lt846_9 := ltA p846_9.lt
    have lt846_11 := ltA p846_11.lt
    have f847 : Fld Z h846 b kS0 "size" "I" (.int 2) := by
      have q := p846_2
      rw [show ((3 : Int32) - (1 : Int32)) = (2 : Int32) from by decide] at q
      exact q
    have f848 : Fld Z h846 b kS0 "content" "D" (.double (if (2 : Int32) = (0 : Int32) then (0 : UInt64) else FP.dsub (FP.dadd (FP.dadd (FP.dadd (0 : UInt64) FP.dconst1) FP.dconst1) FP.dconst1) FP.dconst1)) := by
      have q := p846_3
      rw [show ((3 : Int32) - (1 : Int32)) = (2 : Int32) from by decide] at q
      exact q
    have pre849 : ∀ t, Steps p.tables e below (T846.setTop (mkF m 199 (la5 p0 p1 p2 p3 p4 p5 (3 : Int32) (1 : Int32) r0 r1 r2 r3 b) [(.int (p5 &&& (1 : Int32)))])) t → Steps p.tables e below (T0.setTop (mkF m 80 (la5 p0 p1 p2 p3 p4 p5 (3 : Int32) (1 : Int32) r0 r1 r2 r3 b) [])) t := by
      intro t kt
      refine pre837 t ?_
      show GO p e below T832 (mkF m 153 (la5 p0 p1 p2 p3 p4 p5 (3 : Int32) (1 : Int32) r0 r1 r2 r3 b) []) _
      refine XS.iload X832.here hx rfl (hb hby at_153) rfl ?_
      show GO p e below T832 (mkF m 155 (la5 p0 p1 p2 p3 p4 p5 (3 : Int32) (1 : Int32) r0 r1 r2 r3 b) [(.int 1)]) _
      refine XS.ifNo X832.here hx rfl (hb hby at_155) rfl ((if0 _ _).trans (tlt ((by decide) : (0 : Int32) < (1 : Int32))).2.2.2) ?_
      show GO p e below T832 (mkF m 158 (la5 p0 p1 p2 p3 p4 p5 (3 : Int32) (1 : Int32) r0 r1 r2 r3 b) []) _
      refine XS.aload X832.here hx rfl (hb hby at_158) rfl rfl ?_
      show GO p e below T832 (mkF m 160 (la5 p0 p1 p2 p3 p4 p5 (3 : Int32) (1 : Int32) r0 r1 r2 r3 b) [(.ref b)]) _
      refine XS.dconst1 X832.here hx rfl (hb hby at_160) rfl ?_
      show GO p e below T832 (mkF m 161 (la5 p0 p1 p2 p3 p4 p5 (3 : Int32) (1 : Int32) r0 r1 r2 r3 b) [(.double FP.dconst1), (.ref b)]) _
      refine st846.trans ?_
      show GO p e below T846 (mkF m 164 (la5 p0 p1 p2 p3 p4 p5 (3 : Int32) (1 : Int32) r0 r1 r2 r3 b) []) _
      refine XS.iload X846.here hx rfl (hb hby at_164) rfl ?_
      show GO p e below T846 (mkF m 166 (la5 p0 p1 p2 p3 p4 p5 (3 : Int32) (1 : Int32) r0 r1 r2 r3 b) [(.int 1)]) _
      refine XS.iconst X846.here hx rfl (hb hby at_166) ?_
      show GO p e below T846 (mkF m 167 (la5 p0 p1 p2 p3 p4 p5 (3 : Int32) (1 : Int32) r0 r1 r2 r3 b) [(.int 1), (.int 1)]) _
      refine XS.icmpYes X846.here hx rfl (pc0 := 167) (pc' := 176) rfl (hb hby at_167) rfl (flt ((by decide) : ¬ ((1 : Int32) < (1 : Int32)))).2.2.2 (by decide) (by decide) ?_
      show GO p e below T846 (mkF m 176 (la5 p0 p1 p2 p3 p4 p5 (3 : Int32) (1 : Int32) r0 r1 r2 r3 b) []) _
      refine XS.iload X846.here hx rfl (hb hby at_176) rfl ?_
      show GO p e below T846 (mkF m 178 (la5 p0 p1 p2 p3 p4 p5 (3 : Int32) (1 : Int32) r0 r1 r2 r3 b) [(.int 1)]) _
      refine XS.iconst X846.here hx rfl (hb hby at_178) ?_
      show GO p e below T846 (mkF m 179 (la5 p0 p1 p2 p3 p4 p5 (3 : Int32) (1 : Int32) r0 r1 r2 r3 b) [(.int 2), (.int 1)]) _
      refine XS.icmpYes X846.here hx rfl (pc0 := 179) (pc' := 188) rfl (hb hby at_179) rfl (flt ((by decide) : ¬ ((2 : Int32) < (1 : Int32)))).2.2.2 (by decide) (by decide) ?_
      show GO p e below T846 (mkF m 188 (la5 p0 p1 p2 p3 p4 p5 (3 : Int32) (1 : Int32) r0 r1 r2 r3 b) []) _
      refine XS.iload X846.here hx rfl (hb hby at_188) rfl ?_
      show GO p e below T846 (mkF m 190 (la5 p0 p1 p2 p3 p4 p5 (3 : Int32) (1 : Int32) r0 r1 r2 r3 b) [(.int 1)]) _
      refine XS.iload X846.here hx rfl (hb hby at_190) rfl ?_
      show GO p e below T846 (mkF m 192 (la5 p0 p1 p2 p3 p4 p5 (3 : Int32) (1 : Int32) r0 r1 r2 r3 b) [(.int 3), (.int 1)]) _
      refine XS.icmpNo X846.here hx rfl (hb hby at_192) rfl (tlt ((by decide) : (1 : Int32) < (3 : Int32))).2.1 ?_
      show GO p e below T846 (mkF m 195 (la5 p0 p1 p2 p3 p4 p5 (3 : Int32) (1 : Int32) r0 r1 r2 r3 b) []) _
      refine XS.iload X846.here hx rfl (hb hby at_195) rfl ?_
      show GO p e below T846 (mkF m 197 (la5 p0 p1 p2 p3 p4 p5 (3 : Int32) (1 : Int32) r0 r1 r2 r3 b) [(.int p5)]) _
      refine XS.iconst X846.here hx rfl (hb hby at_197) ?_
      show GO p e below T846 (mkF m 198 (la5 p0 p1 p2 p3 p4 p5 (3 : Int32) (1 : Int32) r0 r1 r2 r3 b) [(.int 1), (.int p5)]) _
      refine XS.iand X846.here hx rfl (hb hby at_198) rfl ?_
      exact kt
    by_cases hb850 : (p5 &&& (1 : Int32)) = (0 : Int32)
    · obtain ⟨vv_851, T851, h851, L851, X851, e851, N851, st851⟩ := tail_3_1 p0 p1 p2 p3 p4 p5 r0 r1 r2 r3 b t3 k3 X846 hx hZ hw hby hml hown e846 N846 (by omega) p846_0 p846_1 f847 p846_10 p846_11 (by first | assumption | decide | omega | exact neN (by omega)) (by first | assumption | decide | omega | exact neN (by omega)) (by first | assumption | decide | omega | exact neN (by omega)) (by first | assumption | decide | omega | exact neN (by omega))
      have pre852 : ∀ t, Steps p.tables e below (T851.setTop (mkF m 298 (la6 p0 p1 p2 p3 p4 p5 (3 : Int32) (1 : Int32) r0 r1 r2 r3 b vv_851) [(.int 1)])) t → Steps p.tables e below (T0.setTop (mkF m 80 (la5 p0 p1 p2 p3 p4 p5 (3 : Int32) (1 : Int32) r0 r1 r2 r3 b) [])) t := by
        intro t kt
        refine pre849 t ?_
        show GO p e below T846 (mkF m 199 (la5 p0 p1 p2 p3 p4 p5 (3 : Int32) (1 : Int32) r0 r1 r2 r3 b) [(.int (p5 &&& (1 : Int32)))]) _
        refine XS.ifYes X846.here hx rfl (pc0 := 199) (pc' := 210) rfl (hb hby at_199) rfl ((if0 _ _).trans (teq (hb850 : (p5 &&& (1 : Int32)) = (0 : Int32))).1) (by decide) (by decide) ?_
        show GO p e below T846 (mkF m 210 (la5 p0 p1 p2 p3 p4 p5 (3 : Int32) (1 : Int32) r0 r1 r2 r3 b) []) _
        refine st851 _ ?_
        exact kt
      exact ⟨vv_851, T851, h851, _, X851.mono (by decide) (by decide), e851, N851, fun t kt => pre852 t kt⟩
    · -- pc 207: Block.takeFromHead by rm_takep1
      obtain ⟨cq853, kq853, q853a, q853b, q853c⟩ := isOf hZ e846 p846_0
      obtain ⟨_, _, ⟨T853, L853, k853, n853⟩, -, X853, ⟨Lc853, hQ853, l853, y853, z853⟩, st853⟩ := X846.virtualBack hx (y := (⟨kS0, "takeFromHead", "(D)V"⟩ : MethodName)) (z := (⟨kS0, "takeFromHead", "(D)V"⟩ : MethodName)) hown (mvT hZ (wd hw 41 rfl)) (mvT hZ (wd hw 42 rfl)) (notFace_of_selects (args := #[]) (mvT hZ (wd hw 44 rfl))) (mvT hZ (wd hw 44 rfl)) (mvT hZ (wd hw 43 rfl)) (by decide) (backOf (W := 0) (rm_takep1 l Z a0 hw [] b (4602678819172646912 : UInt64) (2 : Int32) (if (2 : Int32) = (0 : Int32) then (0 : UInt64) else FP.dsub (FP.dadd (FP.dadd (FP.dadd (0 : UInt64) FP.dconst1) FP.dconst1) FP.dconst1) FP.dconst1) FP.dconst1 t0 k0 ([(.int p3), (.int (p3 + (1 : Int32))), (.int (p3 + (2 : Int32))), (.int 0), (.int 0), (.int 0), (.int 0), (.int 0)]) t1 k1 ([(.int p4), (.int p4), (.int p4), (.int 0), (.int 0), (.int 0), (.int 0), (.int 0)]) t2 k2 ([(.double FP.dconst1), (.double FP.dconst1), (.double FP.dconst1), (.double (0 : UInt64)), (.double (0 : UInt64)), (.double (0 : UInt64)), (.double (0 : UInt64)), (.double (0 : UInt64))]) t3 k3 ([(.int (nar .boolean r0)), (.int (nar .boolean r1)), (.int (nar .boolean r2)), (.int 0), (.int 0), (.int 0), (.int 0), (.int 0)]) h846 n0 (by omega) p846_0 p846_1 f847 f848 p846_4 p846_5 p846_6 p846_7 p846_8 p846_9 p846_10 p846_11 rfl rfl rfl rfl (by first | assumption | decide | omega | exact neN (by omega)) (by first | assumption | decide | omega | exact neN (by omega)) (by first | assumption | decide | omega | exact neN (by omega)) (by first | assumption | decide | omega | exact neN (by omega)) (by first | assumption | decide | omega | exact neN (by omega)) rfl (by decide +kernel) (by unfold Jvm.Free.Fl.NoNaN64; decide +kernel) (by unfold Jvm.Free.Fl.NoNaN64; decide +kernel) (by decide)) hZ (wd hw 45 rfl) (wd hw 7 rfl) (by decide) (by decide)) q853a q853c (g := (mkF m 207 (la5 p0 p1 p2 p3 p4 p5 (3 : Int32) (1 : Int32) r0 r1 r2 r3 b) [(.double (4602678819172646912 : UInt64)), (.ref b)])) rfl (by rw [hml]; rfl) (Steps.refl _) (argsL := [(.double (4602678819172646912 : UInt64))]) (rest := []) (lenOf pd_2 rfl) rfl (by show 2 * 0 + _ ≤ _; exact Nat.le_of_eq rfl) (hb hby at_207) (fun _ _ => ⟨rfl, e846, (by decide : 5 + 0 ≤ _), (by decide : 39 + 0 ≤ _)⟩)
      dsimp only [Pt.U, Pt.locs, Pt.cells, Pt.slots] at X853 l853 y853 z853 st853 hQ853
      subst l853 y853 z853
      obtain ⟨h853, e853⟩ : ∃ z, T853.heap = z := ⟨_, rfl⟩
      rw [e853] at hQ853
      obtain ⟨rfl, N853q, K853, p853_0, p853_1, p853_2, p853_3, p853_4, p853_5, p853_6, p853_7, p853_8, p853_9, p853_10, p853_11⟩ := hQ853
      have N853 := Fr.app N846 N853q
      have sz853 : h846.size ≤ h853.size := K853.1
      have lt853_0 := ltA p853_0.lt
      have lt853_5 := ltA p853_5.lt
      have lt853_7 := ltA p853_7.lt
      have lt853_9 := ltA p853_9.lt
      have lt853_11 := ltA p853_11.lt
      have f854 : Arv Z h853 t2 k2 .double (8 : Int32) [(.double FP.dconst1), (.double (FP.dsub FP.dconst1 (4602678819172646912 : UInt64))), (.double FP.dconst1), (.double (0 : UInt64)), (.double (0 : UInt64)), (.double (0 : UInt64)), (.double (0 : UInt64)), (.double (0 : UInt64))] (.double (0 : UInt64)) := by
        have q := p853_9
        exact q
      obtain ⟨vv_855, T855, h855, L855, X855, e855, N855, st855⟩ := tail_3_1 p0 p1 p2 p3 p4 p5 r0 r1 r2 r3 b t3 k3 X853 hx hZ hw hby hml hown e853 N853 (by omega) p853_0 p853_1 p853_2 p853_10 p853_11 (by first | assumption | decide | omega | exact neN (by omega)) (by first | assumption | decide | omega | exact neN (by omega)) (by first | assumption | decide | omega | exact neN (by omega)) (by first | assumption | decide | omega | exact neN (by omega))
      have pre856 : ∀ t, Steps p.tables e below (T855.setTop (mkF m 298 (la6 p0 p1 p2 p3 p4 p5 (3 : Int32) (1 : Int32) r0 r1 r2 r3 b vv_855) [(.int 1)])) t → Steps p.tables e below (T0.setTop (mkF m 80 (la5 p0 p1 p2 p3 p4 p5 (3 : Int32) (1 : Int32) r0 r1 r2 r3 b) [])) t := by
        intro t kt
        refine pre849 t ?_
        show GO p e below T846 (mkF m 199 (la5 p0 p1 p2 p3 p4 p5 (3 : Int32) (1 : Int32) r0 r1 r2 r3 b) [(.int (p5 &&& (1 : Int32)))]) _
        refine XS.ifNo X846.here hx rfl (hb hby at_199) rfl ((if0 _ _).trans (feq (hb850 : ¬ ((p5 &&& (1 : Int32)) = (0 : Int32)))).1) ?_
        show GO p e below T846 (mkF m 202 (la5 p0 p1 p2 p3 p4 p5 (3 : Int32) (1 : Int32) r0 r1 r2 r3 b) []) _
        refine XS.aload X846.here hx rfl (hb hby at_202) rfl rfl ?_
        show GO p e below T846 (mkF m 204 (la5 p0 p1 p2 p3 p4 p5 (3 : Int32) (1 : Int32) r0 r1 r2 r3 b) [(.ref b)]) _
        refine X846.ldc2DoubleC hx hown (mvT hZ (wd hw 46 rfl)) (g := (mkF m 204 (la5 p0 p1 p2 p3 p4 p5 (3 : Int32) (1 : Int32) r0 r1 r2 r3 b) [(.ref b)])) rfl (hb hby at_204) _ ?_
        show GO p e below T846 (mkF m 207 (la5 p0 p1 p2 p3 p4 p5 (3 : Int32) (1 : Int32) r0 r1 r2 r3 b) [(.double (4602678819172646912 : UInt64)), (.ref b)]) _
        refine st853.trans ?_
        show GO p e below T853 (mkF m 210 (la5 p0 p1 p2 p3 p4 p5 (3 : Int32) (1 : Int32) r0 r1 r2 r3 b) []) _
        refine st855 _ ?_
        exact kt
      exact ⟨vv_855, T855, h855, _, X855.mono (by decide) (by decide), e855, N855, fun t kt => pre856 t kt⟩
  · -- pc 161: Block.takeFromHead by rm_takef0
    obtain ⟨cq857, kq857, q857a, q857b, q857c⟩ := isOf hZ e832 p832_0
    obtain ⟨_, _, ⟨T857, L857, k857, n857⟩, -, X857, ⟨Lc857, hQ857, l857, y857, z857⟩, st857⟩ := X832.virtualBack hx (y := (⟨kS0, "takeFromHead", "(D)V"⟩ : MethodName)) (z := (⟨kS0, "takeFromHead", "(D)V"⟩ : MethodName)) hown (mvT hZ (wd hw 41 rfl)) (mvT hZ (wd hw 42 rfl)) (notFace_of_selects (args := #[]) (mvT hZ (wd hw 44 rfl))) (mvT hZ (wd hw 44 rfl)) (mvT hZ (wd hw 43 rfl)) (by decide) (backOf (W := 0) (rm_takef0 l Z a0 hw [] b FP.dconst1 (3 : Int32) (FP.dadd (FP.dadd (FP.dadd (0 : UInt64) FP.dconst1) FP.dconst1) FP.dconst1) FP.dconst1 t0 k0 ([(.int p3), (.int (p3 + (1 : Int32))), (.int (p3 + (2 : Int32))), (.int 0), (.int 0), (.int 0), (.int 0), (.int 0)]) t1 k1 ([(.int p4), (.int p4), (.int p4), (.int 0), (.int 0), (.int 0), (.int 0), (.int 0)]) t2 k2 ([(.double FP.dconst1), (.double FP.dconst1), (.double FP.dconst1), (.double (0 : UInt64)), (.double (0 : UInt64)), (.double (0 : UInt64)), (.double (0 : UInt64)), (.double (0 : UInt64))]) t3 k3 ([(.int (nar .boolean r0)), (.int (nar .boolean r1)), (.int (nar .boolean r2)), (.int 0), (.int 0), (.int 0), (.int 0), (.int 0)]) h832 n0 (by omega) p832_0 p832_1 p832_2 p832_3 p832_4 f833 p832_6 f834 p832_8 f835 p832_10 f836 rfl rfl rfl rfl (by first | assumption | decide | omega | exact neN (by omega)) (by first | assumption | decide | omega | exact neN (by omega)) (by first | assumption | decide | omega | exact neN (by omega)) (by first | assumption | decide | omega | exact neN (by omega)) (by first | assumption | decide | omega | exact neN (by omega)) rfl (by decide +kernel) (by unfold Jvm.Free.Fl.NoNaN64; decide +kernel)) hZ (wd hw 45 rfl) (wd hw 7 rfl) (by decide) (by decide)) q857a q857c (g := (mkF m 161 (la5 p0 p1 p2 p3 p4 p5 (3 : Int32) (2 : Int32) r0 r1 r2 r3 b) [(.double FP.dconst1), (.ref b)])) rfl (by rw [hml]; rfl) (Steps.refl _) (argsL := [(.double FP.dconst1)]) (rest := []) (lenOf pd_2 rfl) rfl (by show 2 * 0 + _ ≤ _; exact Nat.le_of_eq rfl) (hb hby at_161) (fun _ _ => ⟨rfl, e832, (by decide : 5 + 0 ≤ _), (by decide : 39 + 0 ≤ _)⟩)
    dsimp only [Pt.U, Pt.locs, Pt.cells, Pt.slots] at X857 l857 y857 z857 st857 hQ857
    subst l857 y857 z857
    obtain ⟨h857, e857⟩ : ∃ z, T857.heap = z := ⟨_, rfl⟩
    rw [e857] at hQ857
    obtain ⟨rfl, N857q, K857, p857_0, p857_1, p857_2, p857_3, p857_4, p857_5, p857_6, p857_7, p857_8, p857_9, p857_10, p857_11⟩ := hQ857
    have N857 := Fr.app N832 N857q
    have sz857 : h832.size ≤ h857.size := K857.1
    have lt857_0 := ltA p857_0.lt
    have lt857_5 := ltA p857_5.lt
    have lt857_7 := ltA p857_7.lt
    have lt857_9 := ltA p857_9.lt
    have lt857_11 := ltA p857_11.lt
    have f858 : Fld Z h857 b kS0 "size" "I" (.int 2) := by
      have q := p857_2
      rw [show ((3 : Int32) - (1 : Int32)) = (2 : Int32) from by decide] at q
      exact q
    have f859 : Fld Z h857 b kS0 "content" "D" (.double (if (2 : Int32) = (0 : Int32) then (0 : UInt64) else FP.dsub (FP.dadd (FP.dadd (FP.dadd (0 : UInt64) FP.dconst1) FP.dconst1) FP.dconst1) FP.dconst1)) := by
      have q := p857_3
      rw [show ((3 : Int32) - (1 : Int32)) = (2 : Int32) from by decide] at q
      exact q
    -- pc 173: Block.takeFromHead by rm_takef1
    obtain ⟨cq860, kq860, q860a, q860b, q860c⟩ := isOf hZ e857 p857_0
    obtain ⟨_, _, ⟨T860, L860, k860, n860⟩, -, X860, ⟨Lc860, hQ860, l860, y860, z860⟩, st860⟩ := X857.virtualBack hx (y := (⟨kS0, "takeFromHead", "(D)V"⟩ : MethodName)) (z := (⟨kS0, "takeFromHead", "(D)V"⟩ : MethodName)) hown (mvT hZ (wd hw 41 rfl)) (mvT hZ (wd hw 42 rfl)) (notFace_of_selects (args := #[]) (mvT hZ (wd hw 44 rfl))) (mvT hZ (wd hw 44 rfl)) (mvT hZ (wd hw 43 rfl)) (by decide) (backOf (W := 0) (rm_takef1 l Z a0 hw [] b FP.dconst1 (2 : Int32) (if (2 : Int32) = (0 : Int32) then (0 : UInt64) else FP.dsub (FP.dadd (FP.dadd (FP.dadd (0 : UInt64) FP.dconst1) FP.dconst1) FP.dconst1) FP.dconst1) FP.dconst1 t0 k0 ([(.int p3), (.int (p3 + (1 : Int32))), (.int (p3 + (2 : Int32))), (.int 0), (.int 0), (.int 0), (.int 0), (.int 0)]) t1 k1 ([(.int p4), (.int p4), (.int p4), (.int 0), (.int 0), (.int 0), (.int 0), (.int 0)]) t2 k2 ([(.double FP.dconst1), (.double FP.dconst1), (.double FP.dconst1), (.double (0 : UInt64)), (.double (0 : UInt64)), (.double (0 : UInt64)), (.double (0 : UInt64)), (.double (0 : UInt64))]) t3 k3 ([(.int (nar .boolean r0)), (.int (nar .boolean r1)), (.int (nar .boolean r2)), (.int 0), (.int 0), (.int 0), (.int 0), (.int 0)]) h857 n0 (by omega) p857_0 p857_1 f858 f859 p857_4 p857_5 p857_6 p857_7 p857_8 p857_9 p857_10 p857_11 rfl rfl rfl rfl (by first | assumption | decide | omega | exact neN (by omega)) (by first | assumption | decide | omega | exact neN (by omega)) (by first | assumption | decide | omega | exact neN (by omega)) (by first | assumption | decide | omega | exact neN (by omega)) (by first | assumption | decide | omega | exact neN (by omega)) rfl (by decide +kernel) (by unfold Jvm.Free.Fl.NoNaN64; decide +kernel)) hZ (wd hw 45 rfl) (wd hw 7 rfl) (by decide) (by decide)) q860a q860c (g := (mkF m 173 (la5 p0 p1 p2 p3 p4 p5 (3 : Int32) (2 : Int32) r0 r1 r2 r3 b) [(.double FP.dconst1), (.ref b)])) rfl (by rw [hml]; rfl) (Steps.refl _) (argsL := [(.double FP.dconst1)]) (rest := []) (lenOf pd_2 rfl) rfl (by show 2 * 0 + _ ≤ _; exact Nat.le_of_eq rfl) (hb hby at_173) (fun _ _ => ⟨rfl, e857, (by decide : 5 + 0 ≤ _), (by decide : 39 + 0 ≤ _)⟩)
    dsimp only [Pt.U, Pt.locs, Pt.cells, Pt.slots] at X860 l860 y860 z860 st860 hQ860
    subst l860 y860 z860
    obtain ⟨h860, e860⟩ : ∃ z, T860.heap = z := ⟨_, rfl⟩
    rw [e860] at hQ860
    obtain ⟨rfl, N860q, K860, p860_0, p860_1, p860_2, p860_3, p860_4, p860_5, p860_6, p860_7, p860_8, p860_9, p860_10, p860_11⟩ := hQ860
    have N860 := Fr.app N857 N860q
    have sz860 : h857.size ≤ h860.size := K860.1
    have lt860_0 := ltA p860_0.lt
    have lt860_5 := ltA p860_5.lt
    have lt860_7 := ltA p860_7.lt
    have lt860_9 := ltA p860_9.lt
    have lt860_11 := ltA p860_11.lt
    have f861 : Fld Z h860 b kS0 "size" "I" (.int 1) := by
      have q := p860_2
      rw [show ((2 : Int32) - (1 : Int32)) = (1 : Int32) from by decide] at q
      exact q
    have f862 : Fld Z h860 b kS0 "content" "D" (.double (if (1 : Int32) = (0 : Int32) then (0 : UInt64) else FP.dsub (if (2 : Int32) = (0 : Int32) then (0 : UInt64) else FP.dsub (FP.dadd (FP.dadd (FP.dadd (0 : UInt64) FP.dconst1) FP.dconst1) FP.dconst1) FP.dconst1) FP.dconst1)) := by
      have q := p860_3
      rw [show ((2 : Int32) - (1 : Int32)) = (1 : Int32) from by decide] at q
      exact q
    have pre863 : ∀ t, Steps p.tables e below (T860.setTop (mkF m 199 (la5 p0 p1 p2 p3 p4 p5 (3 : Int32) (2 : Int32) r0 r1 r2 r3 b) [(.int (p5 &&& (1 : Int32)))])) t → Steps p.tables e below (T0.setTop (mkF m 80 (la5 p0 p1 p2 p3 p4 p5 (3 : Int32) (2 : Int32) r0 r1 r2 r3 b) [])) t := by
      intro t kt
      refine pre837 t ?_
      show GO p e below T832 (mkF m 153 (la5 p0 p1 p2 p3 p4 p5 (3 : Int32) (2 : Int32) r0 r1 r2 r3 b) []) _
      refine XS.iload X832.here hx rfl (hb hby at_153) rfl ?_
      show GO p e below T832 (mkF m 155 (la5 p0 p1 p2 p3 p4 p5 (3 : Int32) (2 : Int32) r0 r1 r2 r3 b) [(.int 2)]) _
      refine XS.ifNo X832.here hx rfl (hb hby at_155) rfl ((if0 _ _).trans (tlt ((by decide) : (0 : Int32) < (2 : Int32))).2.2.2) ?_
      show GO p e below T832 (mkF m 158 (la5 p0 p1 p2 p3 p4 p5 (3 : Int32) (2 : Int32) r0 r1 r2 r3 b) []) _
      refine XS.aload X832.here hx rfl (hb hby at_158) rfl rfl ?_
      show GO p e below T832 (mkF m 160 (la5 p0 p1 p2 p3 p4 p5 (3 : Int32) (2 : Int32) r0 r1 r2 r3 b) [(.ref b)]) _
      refine XS.dconst1 X832.here hx rfl (hb hby at_160) rfl ?_
      show GO p e below T832 (mkF m 161 (la5 p0 p1 p2 p3 p4 p5 (3 : Int32) (2 : Int32) r0 r1 r2 r3 b) [(.double FP.dconst1), (.ref b)]) _
      refine st857.trans ?_
      show GO p e below T857 (mkF m 164 (la5 p0 p1 p2 p3 p4 p5 (3 : Int32) (2 : Int32) r0 r1 r2 r3 b) []) _
      refine XS.iload X857.here hx rfl (hb hby at_164) rfl ?_
      show GO p e below T857 (mkF m 166 (la5 p0 p1 p2 p3 p4 p5 (3 : Int32) (2 : Int32) r0 r1 r2 r3 b) [(.int 2)]) _
      refine XS.iconst X857.here hx rfl (hb hby at_166) ?_
      show GO p e below T857 (mkF m 167 (la5 p0 p1 p2 p3 p4 p5 (3 : Int32) (2 : Int32) r0 r1 r2 r3 b) [(.int 1), (.int 2)]) _
      refine XS.icmpNo X857.here hx rfl (hb hby at_167) rfl (tlt ((by decide) : (1 : Int32) < (2 : Int32))).2.2.2 ?_
      show GO p e below T857 (mkF m 170 (la5 p0 p1 p2 p3 p4 p5 (3 : Int32) (2 : Int32) r0 r1 r2 r3 b) []) _
      refine XS.aload X857.here hx rfl (hb hby at_170) rfl rfl ?_
      show GO p e below T857 (mkF m 172 (la5 p0 p1 p2 p3 p4 p5 (3 : Int32) (2 : Int32) r0 r1 r2 r3 b) [(.ref b)]) _
      refine XS.dconst1 X857.here hx rfl (hb hby at_172) rfl ?_
      show GO p e below T857 (mkF m 173 (la5 p0 p1 p2 p3 p4 p5 (3 : Int32) (2 : Int32) r0 r1 r2 r3 b) [(.double FP.dconst1), (.ref b)]) _
      refine st860.trans ?_
      show GO p e below T860 (mkF m 176 (la5 p0 p1 p2 p3 p4 p5 (3 : Int32) (2 : Int32) r0 r1 r2 r3 b) []) _
      refine XS.iload X860.here hx rfl (hb hby at_176) rfl ?_
      show GO p e below T860 (mkF m 178 (la5 p0 p1 p2 p3 p4 p5 (3 : Int32) (2 : Int32) r0 r1 r2 r3 b) [(.int 2)]) _
      refine XS.iconst X860.here hx rfl (hb hby at_178) ?_
      show GO p e below T860 (mkF m 179 (la5 p0 p1 p2 p3 p4 p5 (3 : Int32) (2 : Int32) r0 r1 r2 r3 b) [(.int 2), (.int 2)]) _
      refine XS.icmpYes X860.here hx rfl (pc0 := 179) (pc' := 188) rfl (hb hby at_179) rfl (flt ((by decide) : ¬ ((2 : Int32) < (2 : Int32)))).2.2.2 (by decide) (by decide) ?_
      show GO p e below T860 (mkF m 188 (la5 p0 p1 p2 p3 p4 p5 (3 : Int32) (2 : Int32) r0 r1 r2 r3 b) []) _
      refine XS.iload X860.here hx rfl (hb hby at_188) rfl ?_
      show GO p e below T860 (mkF m 190 (la5 p0 p1 p2 p3 p4 p5 (3 : Int32) (2 : Int32) r0 r1 r2 r3 b) [(.int 2)]) _
      refine XS.iload X860.here hx rfl (hb hby at_190) rfl ?_
      show GO p e below T860 (mkF m 192 (la5 p0 p1 p2 p3 p4 p5 (3 : Int32) (2 : Int32) r0 r1 r2 r3 b) [(.int 3), (.int 2)]) _
      refine XS.icmpNo X860.here hx rfl (hb hby at_192) rfl (tlt ((by decide) : (2 : Int32) < (3 : Int32))).2.1 ?_
      show GO p e below T860 (mkF m 195 (la5 p0 p1 p2 p3 p4 p5 (3 : Int32) (2 : Int32) r0 r1 r2 r3 b) []) _
      refine XS.iload X860.here hx rfl (hb hby at_195) rfl ?_
      show GO p e below T860 (mkF m 197 (la5 p0 p1 p2 p3 p4 p5 (3 : Int32) (2 : Int32) r0 r1 r2 r3 b) [(.int p5)]) _
      refine XS.iconst X860.here hx rfl (hb hby at_197) ?_
      show GO p e below T860 (mkF m 198 (la5 p0 p1 p2 p3 p4 p5 (3 : Int32) (2 : Int32) r0 r1 r2 r3 b) [(.int 1), (.int p5)]) _
      refine XS.iand X860.here hx rfl (hb hby at_198) rfl ?_
      exact kt
    by_cases hb864 : (p5 &&& (1 : Int32)) = (0 : Int32)
    · obtain ⟨vv_865, T865, h865, L865, X865, e865, N865, st865⟩ := tail_3_2 p0 p1 p2 p3 p4 p5 r0 r1 r2 r3 b t3 k3 X860 hx hZ hw hby hml hown e860 N860 (by omega) p860_0 p860_1 f861 p860_10 p860_11 (by first | assumption | decide | omega | exact neN (by omega)) (by first | assumption | decide | omega | exact neN (by omega)) (by first | assumption | decide | omega | exact neN (by omega)) (by first | assumption | decide | omega | exact neN (by omega))
      have pre866 : ∀ t, Steps p.tables e below (T865.setTop (mkF m 298 (la6 p0 p1 p2 p3 p4 p5 (3 : Int32) (2 : Int32) r0 r1 r2 r3 b vv_865) [(.int 1)])) t → Steps p.tables e below (T0.setTop (mkF m 80 (la5 p0 p1 p2 p3 p4 p5 (3 : Int32) (2 : Int32) r0 r1 r2 r3 b) [])) t := by
        intro t kt
        refine pre863 t ?_
        show GO p e below T860 (mkF m 199 (la5 p0 p1 p2 p3 p4 p5 (3 : Int32) (2 : Int32) r0 r1 r2 r3 b) [(.int (p5 &&& (1 : Int32)))]) _
        refine XS.ifYes X860.here hx rfl (pc0 := 199) (pc' := 210) rfl (hb hby at_199) rfl ((if0 _ _).trans (teq (hb864 : (p5 &&& (1 : Int32)) = (0 : Int32))).1) (by decide) (by decide) ?_
        show GO p e below T860 (mkF m 210 (la5 p0 p1 p2 p3 p4 p5 (3 : Int32) (2 : Int32) r0 r1 r2 r3 b) []) _
        refine st865 _ ?_
        exact kt
      exact ⟨vv_865, T865, h865, _, X865.mono (by decide) (by decide), e865, N865, fun t kt => pre866 t kt⟩
    · -- pc 207: Block.takeFromHead by rm_takep2
      obtain ⟨cq867, kq867, q867a, q867b, q867c⟩ := isOf hZ e860 p860_0
      obtain ⟨_, _, ⟨T867, L867, k867, n867⟩, -, X867, ⟨Lc867, hQ867, l867, y867, z867⟩, st867⟩ := X860.virtualBack hx (y := (⟨kS0, "takeFromHead", "(D)V"⟩ : MethodName)) (z := (⟨kS0, "takeFromHead", "(D)V"⟩ : MethodName)) hown (mvT hZ (wd hw 41 rfl)) (mvT hZ (wd hw 42 rfl)) (notFace_of_selects (args := #[]) (mvT hZ (wd hw 44 rfl))) (mvT hZ (wd hw 44 rfl)) (mvT hZ (wd hw 43 rfl)) (by decide) (backOf (W := 0) (rm_takep2 l Z a0 hw [] b (4602678819172646912 : UInt64) (1 : Int32) (if (1 : Int32) = (0 : Int32) then (0 : UInt64) else FP.dsub (if (2 : Int32) = (0 : Int32) then (0 : UInt64) else FP.dsub (FP.dadd (FP.dadd (FP.dadd (0 : UInt64) FP.dconst1) FP.dconst1) FP.dconst1) FP.dconst1) FP.dconst1) FP.dconst1 t0 k0 ([(.int p3), (.int (p3 + (1 : Int32))), (.int (p3 + (2 : Int32))), (.int 0), (.int 0), (.int 0), (.int 0), (.int 0)]) t1 k1 ([(.int p4), (.int p4), (.int p4), (.int 0), (.int 0), (.int 0), (.int 0), (.int 0)]) t2 k2 ([(.double FP.dconst1), (.double FP.dconst1), (.double FP.dconst1), (.double (0 : UInt64)), (.double (0 : UInt64)), (.double (0 : UInt64)), (.double (0 : UInt64)), (.double (0 : UInt64))]) t3 k3 ([(.int (nar .boolean r0)), (.int (nar .boolean r1)), (.int (nar .boolean r2)), (.int 0), (.int 0), (.int 0), (.int 0), (.int 0)]) h860 n0 (by omega) p860_0 p860_1 f861 f862 p860_4 p860_5 p860_6 p860_7 p860_8 p860_9 p860_10 p860_11 rfl rfl rfl rfl (by first | assumption | decide | omega | exact neN (by omega)) (by first | assumption | decide | omega | exact neN (by omega)) (by first | assumption | decide | omega | exact neN (by omega)) (by first | assumption | decide | omega | exact neN (by omega)) (by first | assumption | decide | omega | exact neN (by omega)) rfl (by decide +kernel) (by unfold Jvm.Free.Fl.NoNaN64; decide +kernel) (by unfold Jvm.Free.Fl.NoNaN64; decide +kernel) (by decide)) hZ (wd hw 45 rfl) (wd hw 7 rfl) (by decide) (by decide)) q867a q867c (g := (mkF m 207 (la5 p0 p1 p2 p3 p4 p5 (3 : Int32) (2 : Int32) r0 r1 r2 r3 b) [(.double (4602678819172646912 : UInt64)), (.ref b)])) rfl (by rw [hml]; rfl) (Steps.refl _) (argsL := [(.double (4602678819172646912 : UInt64))]) (rest := []) (lenOf pd_2 rfl) rfl (by show 2 * 0 + _ ≤ _; exact Nat.le_of_eq rfl) (hb hby at_207) (fun _ _ => ⟨rfl, e860, (by decide : 5 + 0 ≤ _), (by decide : 39 + 0 ≤ _)⟩)
      dsimp only [Pt.U, Pt.locs, Pt.cells, Pt.slots] at X867 l867 y867 z867 st867 hQ867
      subst l867 y867 z867
      obtain ⟨h867, e867⟩ : ∃ z, T867.heap = z := ⟨_, rfl⟩
      rw [e867] at hQ867
      obtain ⟨rfl, N867q, K867, p867_0, p867_1, p867_2, p867_3, p867_4, p867_5, p867_6, p867_7, p867_8, p867_9, p867_10, p867_11⟩ := hQ867
      have N867 := Fr.app N860 N867q
      have sz867 : h860.size ≤ h867.size := K867.1
      have lt867_0 := ltA p867_0.lt
      have lt867_5 := ltA p867_5.lt
      have lt867_7 := ltA p867_7.lt
      have lt867_9 := ltA p867_9.lt
      have lt867_11 := ltA p867_11.lt
      have f868 : Arv Z h867 t2 k2 .double (8 : Int32) [(.double FP.dconst1), (.double FP.dconst1), (.double (FP.dsub FP.dconst1 (4602678819172646912 : UInt64))), (.double (0 : UInt64)), (.double (0 : UInt64)), (.double (0 : UInt64)), (.double (0 : UInt64)), (.double (0 : UInt64))] (.double (0 : UInt64)) := by
        have q := p867_9
        exact q
      obtain ⟨vv_869, T869, h869, L869, X869, e869, N869, st869⟩ := tail_3_2 p0 p1 p2 p3 p4 p5 r0 r1 r2 r3 b t3 k3 X867 hx hZ hw hby hml hown e867 N867 (by omega) p867_0 p867_1 p867_2 p867_10 p867_11 (by first | assumption | decide | omega | exact neN (by omega)) (by first | assumption | decide | omega | exact neN (by omega)) (by first | assumption | decide | omega | exact neN (by omega)) (by first | assumption | decide | omega | exact neN (by omega))
      have pre870 : ∀ t, Steps p.tables e below (T869.setTop (mkF m 298 (la6 p0 p1 p2 p3 p4 p5 (3 : Int32) (2 : Int32) r0 r1 r2 r3 b vv_869) [(.int 1)])) t → Steps p.tables e below (T0.setTop (mkF m 80 (la5 p0 p1 p2 p3 p4 p5 (3 : Int32) (2 : Int32) r0 r1 r2 r3 b) [])) t := by
        intro t kt
        refine pre863 t ?_
        show GO p e below T860 (mkF m 199 (la5 p0 p1 p2 p3 p4 p5 (3 : Int32) (2 : Int32) r0 r1 r2 r3 b) [(.int (p5 &&& (1 : Int32)))]) _
        refine XS.ifNo X860.here hx rfl (hb hby at_199) rfl ((if0 _ _).trans (feq (hb864 : ¬ ((p5 &&& (1 : Int32)) = (0 : Int32)))).1) ?_
        show GO p e below T860 (mkF m 202 (la5 p0 p1 p2 p3 p4 p5 (3 : Int32) (2 : Int32) r0 r1 r2 r3 b) []) _
        refine XS.aload X860.here hx rfl (hb hby at_202) rfl rfl ?_
        show GO p e below T860 (mkF m 204 (la5 p0 p1 p2 p3 p4 p5 (3 : Int32) (2 : Int32) r0 r1 r2 r3 b) [(.ref b)]) _
        refine X860.ldc2DoubleC hx hown (mvT hZ (wd hw 46 rfl)) (g := (mkF m 204 (la5 p0 p1 p2 p3 p4 p5 (3 : Int32) (2 : Int32) r0 r1 r2 r3 b) [(.ref b)])) rfl (hb hby at_204) _ ?_
        show GO p e below T860 (mkF m 207 (la5 p0 p1 p2 p3 p4 p5 (3 : Int32) (2 : Int32) r0 r1 r2 r3 b) [(.double (4602678819172646912 : UInt64)), (.ref b)]) _
        refine st867.trans ?_
        show GO p e below T867 (mkF m 210 (la5 p0 p1 p2 p3 p4 p5 (3 : Int32) (2 : Int32) r0 r1 r2 r3 b) []) _
        refine st869 _ ?_
        exact kt
      exact ⟨vv_869, T869, h869, _, X869.mono (by decide) (by decide), e869, N869, fun t kt => pre870 t kt⟩
  · -- pc 161: Block.takeFromHead by rm_takef0
    obtain ⟨cq871, kq871, q871a, q871b, q871c⟩ := isOf hZ e832 p832_0
    obtain ⟨_, _, ⟨T871, L871, k871, n871⟩, -, X871, ⟨Lc871, hQ871, l871, y871, z871⟩, st871⟩ := X832.virtualBack hx (y := (⟨kS0, "takeFromHead", "(D)V"⟩ : MethodName)) (z := (⟨kS0, "takeFromHead", "(D)V"⟩ : MethodName)) hown (mvT hZ (wd hw 41 rfl)) (mvT hZ (wd hw 42 rfl)) (notFace_of_selects (args := #[]) (mvT hZ (wd hw 44 rfl))) (mvT hZ (wd hw 44 rfl)) (mvT hZ (wd hw 43 rfl)) (by decide) (backOf (W := 0) (rm_takef0 l Z a0 hw [] b FP.dconst1 (3 : Int32) (FP.dadd (FP.dadd (FP.dadd (0 : UInt64) FP.dconst1) FP.dconst1) FP.dconst1) FP.dconst1 t0 k0 ([(.int p3), (.int (p3 + (1 : Int32))), (.int (p3 + (2 : Int32))), (.int 0), (.int 0), (.int 0), (.int 0), (.int 0)]) t1 k1 ([(.int p4), (.int p4), (.int p4), (.int 0), (.int 0), (.int 0), (.int 0), (.int 0)]) t2 k2 ([(.double FP.dconst1), (.double FP.dconst1), (.double FP.dconst1), (.double (0 : UInt64)), (.double (0 : UInt64)), (.double (0 : UInt64)), (.double (0 : UInt64)), (.double (0 : UInt64))]) t3 k3 ([(.int (nar .boolean r0)), (.int (nar .boolean r1)), (.int (nar .boolean r2)), (.int 0), (.int 0), (.int 0), (.int 0), (.int 0)]) h832 n0 (by omega) p832_0 p832_1 p832_2 p832_3 p832_4 f833 p832_6 f834 p832_8 f835 p832_10 f836 rfl rfl rfl rfl (by first | assumption | decide | omega | exact neN (by omega)) (by first | assumption | decide | omega | exact neN (by omega)) (by first | assumption | decide | omega | exact neN (by omega)) (by first | assumption | decide | omega | exact neN (by omega)) (by first | assumption | decide | omega | exact neN (by omega)) rfl (by decide +kernel) (by unfold Jvm.Free.Fl.NoNaN64; decide +kernel)) hZ (wd hw 45 rfl) (wd hw 7 rfl) (by decide) (by decide)) q871a q871c (g := (mkF m 161 (la5 p0 p1 p2 p3 p4 p5 (3 : Int32) (3 : Int32) r0 r1 r2 r3 b) [(.double FP.dconst1), (.ref b)])) rfl (by rw [hml]; rfl) (Steps.refl _) (argsL := [(.double FP.dconst1)]) (rest := []) (lenOf pd_2 rfl) rfl (by show 2 * 0 + _ ≤ _; exact Nat.le_of_eq rfl) (hb hby at_161) (fun _ _ => ⟨rfl, e832, (by decide : 5 + 0 ≤ _), (by decide : 39 + 0 ≤ _)⟩)
    dsimp only [Pt.U, Pt.locs, Pt.cells, Pt.slots] at X871 l871 y871 z871 st871 hQ871
    subst l871 y871 z871
    obtain ⟨h871, e871⟩ : ∃ z, T871.heap = z := ⟨_, rfl⟩
    rw [e871] at hQ871
    obtain ⟨rfl, N871q, K871, p871_0, p871_1, p871_2, p871_3, p871_4, p871_5, p871_6, p871_7, p871_8, p871_9, p871_10, p871_11⟩ := hQ871
    have N871 := Fr.app N832 N871q
    have sz871 : h832.size ≤ h871.size := K871.1
    have lt871_0 := ltA p871_0.lt
    have lt871_5 := ltA p871_5.lt
    have lt871_7 := ltA p871_7.lt
    have lt871_9 := ltA p871_9.lt
    have lt871_11 := ltA p871_11.lt
    have f872 : Fld Z h871 b kS0 "size" "I" (.int 2) := by
      have q := p871_2
      rw [show ((3 : Int32) - (1 : Int32)) = (2 : Int32) from by decide] at q
      exact q
    have f873 : Fld Z h871 b kS0 "content" "D" (.double (if (2 : Int32) = (0 : Int32) then (0 : UInt64) else FP.dsub (FP.dadd (FP.dadd (FP.dadd (0 : UInt64) FP.dconst1) FP.dconst1) FP.dconst1) FP.dconst1)) := by
      have q := p871_3
      rw [show ((3 : Int32) - (1 : Int32)) = (2 : Int32) from by decide] at q
      exact q
    -- pc 173: Block.takeFromHead by rm_takef1
    obtain ⟨cq874, kq874, q874a, q874b, q874c⟩ := isOf hZ e871 p871_0
    obtain ⟨_, _, ⟨T874, L874, k874, n874⟩, -, X874, ⟨Lc874, hQ874, l874, y874, z874⟩, st874⟩ := X871.virtualBack hx (y := (⟨kS0, "takeFromHead", "(D)V"⟩ : MethodName)) (z := (⟨kS0, "takeFromHead", "(D)V"⟩ : MethodName)) hown (mvT hZ (wd hw 41 rfl)) (mvT hZ (wd hw 42 rfl)) (notFace_of_selects (args := #[]) (mvT hZ (wd hw 44 rfl))) (mvT hZ (wd hw 44 rfl)) (mvT hZ (wd hw 43 rfl)) (by decide) (backOf (W := 0) (rm_takef1 l Z a0 hw [] b FP.dconst1 (2 : Int32) (if (2 : Int32) = (0 : Int32) then (0 : UInt64) else FP.dsub (FP.dadd (FP.dadd (FP.dadd (0 : UInt64) FP.dconst1) FP.dconst1) FP.dconst1) FP.dconst1) FP.dconst1 t0 k0 ([(.int p3), (.int (p3 + (1 : Int32))), (.int (p3 + (2 : Int32))), (.int 0), (.int 0), (.int 0), (.int 0), (.int 0)]) t1 k1 ([(.int p4), (.int p4), (.int p4), (.int 0), (.int 0), (.int 0), (.int 0), (.int 0)]) t2 k2 ([(.double FP.dconst1), (.double FP.dconst1), (.double FP.dconst1), (.double (0 : UInt64)), (.double (0 : UInt64)), (.double (0 : UInt64)), (.double (0 : UInt64)), (.double (0 : UInt64))]) t3 k3 ([(.int (nar .boolean r0)), (.int (nar .boolean r1)), (.int (nar .boolean r2)), (.int 0), (.int 0), (.int 0), (.int 0), (.int 0)]) h871 n0 (by omega) p871_0 p871_1 f872 f873 p871_4 p871_5 p871_6 p871_7 p871_8 p871_9 p871_10 p871_11 rfl rfl rfl rfl (by first | assumption | decide | omega | exact neN (by omega)) (by first | assumption | decide | omega | exact neN (by omega)) (by first | assumption | decide | omega | exact neN (by omega)) (by first | assumption | decide | omega | exact neN (by omega)) (by first | assumption | decide | omega | exact neN (by omega)) rfl (by decide +kernel) (by unfold Jvm.Free.Fl.NoNaN64; decide +kernel)) hZ (wd hw 45 rfl) (wd hw 7 rfl) (by decide) (by decide)) q874a q874c (g := (mkF m 173 (la5 p0 p1 p2 p3 p4 p5 (3 : Int32) (3 : Int32) r0 r1 r2 r3 b) [(.double FP.dconst1), (.ref b)])) rfl (by rw [hml]; rfl) (Steps.refl _) (argsL := [(.double FP.dconst1)]) (rest := []) (lenOf pd_2 rfl) rfl (by show 2 * 0 + _ ≤ _; exact Nat.le_of_eq rfl) (hb hby at_173) (fun _ _ => ⟨rfl, e871, (by decide : 5 + 0 ≤ _), (by decide : 39 + 0 ≤ _)⟩)
    dsimp only [Pt.U, Pt.locs, Pt.cells, Pt.slots] at X874 l874 y874 z874 st874 hQ874
    subst l874 y874 z874
    obtain ⟨h874, e874⟩ : ∃ z, T874.heap = z := ⟨_, rfl⟩
    rw [e874] at hQ874
    obtain ⟨rfl, N874q, K874, p874_0, p874_1, p874_2, p874_3, p874_4, p874_5, p874_6, p874_7, p874_8, p874_9, p874_10, p874_11⟩ := hQ874
    have N874 := Fr.app N871 N874q
    have sz874 : h871.size ≤ h874.size := K874.1
    have lt874_0 := ltA p874_0.lt
    have lt874_5 := ltA p874_5.lt
    have lt874_7 := ltA p874_7.lt
    have lt874_9 := ltA p874_9.lt
    have lt874_11 := ltA p874_11.lt
    have f875 : Fld Z h874 b kS0 "size" "I" (.int 1) := by
      have q := p874_2
      rw [show ((2 : Int32) - (1 : Int32)) = (1 : Int32) from by decide] at q
      exact q
    have f876 : Fld Z h874 b kS0 "content" "D" (.double (if (1 : Int32) = (0 : Int32) then (0 : UInt64) else FP.dsub (if (2 : Int32) = (0 : Int32) then (0 : UInt64) else FP.dsub (FP.dadd (FP.dadd (FP.dadd (0 : UInt64) FP.dconst1) FP.dconst1) FP.dconst1) FP.dconst1) FP.dconst1)) := by
      have q := p874_3
      rw [show ((2 : Int32) - (1 : Int32)) = (1 : Int32) from by decide] at q
      exact q
    -- pc 185: Block.takeFromHead by rm_takef2
    obtain ⟨cq877, kq877, q877a, q877b, q877c⟩ := isOf hZ e874 p874_0
    obtain ⟨_, _, ⟨T877, L877, k877, n877⟩, -, X877, ⟨Lc877, hQ877, l877, y877, z877⟩, st877⟩ := X874.virtualBack hx (y := (⟨kS0, "takeFromHead", "(D)V"⟩ : MethodName)) (z := (⟨kS0, "takeFromHead", "(D)V"⟩ : MethodName)) hown (mvT hZ (wd hw 41 rfl)) (mvT hZ (wd hw 42 rfl)) (notFace_of_selects (args := #[]) (mvT hZ (wd hw 44 rfl))) (mvT hZ (wd hw 44 rfl)) (mvT hZ (wd hw 43 rfl)) (by decide) (backOf (W := 0) (rm_takef2 l Z a0 hw [] b FP.dconst1 (1 : Int32) (if (1 : Int32) = (0 : Int32) then (0 : UInt64) else FP.dsub (if (2 : Int32) = (0 : Int32) then (0 : UInt64) else FP.dsub (FP.dadd (FP.dadd (FP.dadd (0 : UInt64) FP.dconst1) FP.dconst1) FP.dconst1) FP.dconst1) FP.dconst1) FP.dconst1 t0 k0 ([(.int p3), (.int (p3 + (1 : Int32))), (.int (p3 + (2 : Int32))), (.int 0), (.int 0), (.int 0), (.int 0), (.int 0)]) t1 k1 ([(.int p4), (.int p4), (.int p4), (.int 0), (.int 0), (.int 0), (.int 0), (.int 0)]) t2 k2 ([(.double FP.dconst1), (.double FP.dconst1), (.double FP.dconst1), (.double (0 : UInt64)), (.double (0 : UInt64)), (.double (0 : UInt64)), (.double (0 : UInt64)), (.double (0 : UInt64))]) t3 k3 ([(.int (nar .boolean r0)), (.int (nar .boolean r1)), (.int (nar .boolean r2)), (.int 0), (.int 0), (.int 0), (.int 0), (.int 0)]) h874 n0 (by omega) p874_0 p874_1 f875 f876 p874_4 p874_5 p874_6 p874_7 p874_8 p874_9 p874_10 p874_11 rfl rfl rfl rfl (by first | assumption | decide | omega | exact neN (by omega)) (by first | assumption | decide | omega | exact neN (by omega)) (by first | assumption | decide | omega | exact neN (by omega)) (by first | assumption | decide | omega | exact neN (by omega)) (by first | assumption | decide | omega | exact neN (by omega)) rfl (by decide +kernel) (by unfold Jvm.Free.Fl.NoNaN64; decide +kernel)) hZ (wd hw 45 rfl) (wd hw 7 rfl) (by decide) (by decide)) q877a q877c (g := (mkF m 185 (la5 p0 p1 p2 p3 p4 p5 (3 : Int32) (3 : Int32) r0 r1 r2 r3 b) [(.double FP.dconst1), (.ref b)])) rfl (by rw [hml]; rfl) (Steps.refl _) (argsL := [(.double FP.dconst1)]) (rest := []) (lenOf pd_2 rfl) rfl (by show 2 * 0 + _ ≤ _; exact Nat.le_of_eq rfl) (hb hby at_185) (fun _ _ => ⟨rfl, e874, (by decide : 5 + 0 ≤ _), (by decide : 39 + 0 ≤ _)⟩)
    dsimp only [Pt.U, Pt.locs, Pt.cells, Pt.slots] at X877 l877 y877 z877 st877 hQ877
    subst l877 y877 z877
    obtain ⟨h877, e877⟩ : ∃ z, T877.heap = z := ⟨_, rfl⟩
    rw [e877] at hQ877
    obtain ⟨rfl, N877q, K877, p877_0, p877_1, p877_2, p877_3, p877_4, p877_5, p877_6, p877_7, p877_8, p877_9, p877_10, p877_11⟩ := hQ877
    have N877 := Fr.app N874 N877q
    have sz877 : h874.size ≤ h877.size := K877.1
    have lt877_0 := ltA p877_0.lt
    have lt877_5 := ltA p877_5.lt
    have lt877_7 := ltA p877_7.lt
    have lt877_9 := ltA p877_9.lt
    have lt877_11 := ltA p877_11.lt
    have f878 : Fld Z h877 b kS0 "size" "I" (.int 0) := by
      have q := p877_2
      rw [show ((1 : Int32) - (1 : Int32)) = (0 : Int32) from by decide] at q
      exact q
    have f879 : Fld Z h877 b kS0 "content" "D" (.double (if (0 : Int32) = (0 : Int32) then (0 : UInt64) else FP.dsub (if (1 : Int32) = (0 : Int32) then (0 : UInt64) else FP.dsub (if (2 : Int32) = (0 : Int32) then (0 : UInt64) else FP.dsub (FP.dadd (FP.dadd (FP.dadd (0 : UInt64) FP.dconst1) FP.dconst1) FP.dconst1) FP.dconst1) FP.dconst1) FP.dconst1)) := by
      have q := p877_3
      rw [show ((1 : Int32) - (1 : Int32)) = (0 : Int32) from by decide] at q
      exact q
    obtain ⟨vv_880, T880, h880, L880, X880, e880, N880, st880⟩ := tail_3_3 p0 p1 p2 p3 p4 p5 r0 r1 r2 r3 b t3 k3 X877 hx hZ hw hby hml hown e877 N877 (by omega) p877_0 p877_1 f878 p877_10 p877_11 (by first | assumption | decide | omega | exact neN (by omega)) (by first | assumption | decide | omega | exact neN (by omega)) (by first | assumption | decide | omega | exact neN (by omega)) (by first | assumption | decide | omega | exact neN (by omega))
    have pre881 : ∀ t, Steps p.tables e below (T880.setTop (mkF m 298 (la6 p0 p1 p2 p3 p4 p5 (3 : Int32) (3 : Int32) r0 r1 r2 r3 b vv_880) [(.int 1)])) t → Steps p.tables e below (T0.setTop (mkF m 80 (la5 p0 p1 p2 p3 p4 p5 (3 : Int32) (3 : Int32) r0 r1 r2 r3 b) [])) t := by
      intro t kt
      refine pre837 t ?_
      show GO p e below T832 (mkF m 153 (la5 p0 p1 p2 p3 p4 p5 (3 : Int32) (3 : Int32) r0 r1 r2 r3 b) []) _
      refine XS.iload X832.here hx rfl (hb hby at_153) rfl ?_
      show GO p e below T832 (mkF m 155 (la5 p0 p1 p2 p3 p4 p5 (3 : Int32) (3 : Int32) r0 r1 r2 r3 b) [(.int 3)]) _
      refine XS.ifNo X832.here hx rfl (hb hby at_155) rfl ((if0 _ _).trans (tlt ((by decide) : (0 : Int32) < (3 : Int32))).2.2.2) ?_
      show GO p e below T832 (mkF m 158 (la5 p0 p1 p2 p3 p4 p5 (3 : Int32) (3 : Int32) r0 r1 r2 r3 b) []) _
      refine XS.aload X832.here hx rfl (hb hby at_158) rfl rfl ?_
      show GO p e below T832 (mkF m 160 (la5 p0 p1 p2 p3 p4 p5 (3 : Int32) (3 : Int32) r0 r1 r2 r3 b) [(.ref b)]) _
      refine XS.dconst1 X832.here hx rfl (hb hby at_160) rfl ?_
      show GO p e below T832 (mkF m 161 (la5 p0 p1 p2 p3 p4 p5 (3 : Int32) (3 : Int32) r0 r1 r2 r3 b) [(.double FP.dconst1), (.ref b)]) _
      refine st871.trans ?_
      show GO p e below T871 (mkF m 164 (la5 p0 p1 p2 p3 p4 p5 (3 : Int32) (3 : Int32) r0 r1 r2 r3 b) []) _
      refine XS.iload X871.here hx rfl (hb hby at_164) rfl ?_
      show GO p e below T871 (mkF m 166 (la5 p0 p1 p2 p3 p4 p5 (3 : Int32) (3 : Int32) r0 r1 r2 r3 b) [(.int 3)]) _
      refine XS.iconst X871.here hx rfl (hb hby at_166) ?_
      show GO p e below T871 (mkF m 167 (la5 p0 p1 p2 p3 p4 p5 (3 : Int32) (3 : Int32) r0 r1 r2 r3 b) [(.int 1), (.int 3)]) _
      refine XS.icmpNo X871.here hx rfl (hb hby at_167) rfl (tlt ((by decide) : (1 : Int32) < (3 : Int32))).2.2.2 ?_
      show GO p e below T871 (mkF m 170 (la5 p0 p1 p2 p3 p4 p5 (3 : Int32) (3 : Int32) r0 r1 r2 r3 b) []) _
      refine XS.aload X871.here hx rfl (hb hby at_170) rfl rfl ?_
      show GO p e below T871 (mkF m 172 (la5 p0 p1 p2 p3 p4 p5 (3 : Int32) (3 : Int32) r0 r1 r2 r3 b) [(.ref b)]) _
      refine XS.dconst1 X871.here hx rfl (hb hby at_172) rfl ?_
      show GO p e below T871 (mkF m 173 (la5 p0 p1 p2 p3 p4 p5 (3 : Int32) (3 : Int32) r0 r1 r2 r3 b) [(.double FP.dconst1), (.ref b)]) _
      refine st874.trans ?_
      show GO p e below T874 (mkF m 176 (la5 p0 p1 p2 p3 p4 p5 (3 : Int32) (3 : Int32) r0 r1 r2 r3 b) []) _
      refine XS.iload X874.here hx rfl (hb hby at_176) rfl ?_
      show GO p e below T874 (mkF m 178 (la5 p0 p1 p2 p3 p4 p5 (3 : Int32) (3 : Int32) r0 r1 r2 r3 b) [(.int 3)]) _
      refine XS.iconst X874.here hx rfl (hb hby at_178) ?_
      show GO p e below T874 (mkF m 179 (la5 p0 p1 p2 p3 p4 p5 (3 : Int32) (3 : Int32) r0 r1 r2 r3 b) [(.int 2), (.int 3)]) _
      refine XS.icmpNo X874.here hx rfl (hb hby at_179) rfl (tlt ((by decide) : (2 : Int32) < (3 : Int32))).2.2.2 ?_
      show GO p e below T874 (mkF m 182 (la5 p0 p1 p2 p3 p4 p5 (3 : Int32) (3 : Int32) r0 r1 r2 r3 b) []) _
      refine XS.aload X874.here hx rfl (hb hby at_182) rfl rfl ?_
      show GO p e below T874 (mkF m 184 (la5 p0 p1 p2 p3 p4 p5 (3 : Int32) (3 : Int32) r0 r1 r2 r3 b) [(.ref b)]) _
      refine XS.dconst1 X874.here hx rfl (hb hby at_184) rfl ?_
      show GO p e below T874 (mkF m 185 (la5 p0 p1 p2 p3 p4 p5 (3 : Int32) (3 : Int32) r0 r1 r2 r3 b) [(.double FP.dconst1), (.ref b)]) _
      refine st877.trans ?_
      show GO p e below T877 (mkF m 188 (la5 p0 p1 p2 p3 p4 p5 (3 : Int32) (3 : Int32) r0 r1 r2 r3 b) []) _
      refine XS.iload X877.here hx rfl (hb hby at_188) rfl ?_
      show GO p e below T877 (mkF m 190 (la5 p0 p1 p2 p3 p4 p5 (3 : Int32) (3 : Int32) r0 r1 r2 r3 b) [(.int 3)]) _
      refine XS.iload X877.here hx rfl (hb hby at_190) rfl ?_
      show GO p e below T877 (mkF m 192 (la5 p0 p1 p2 p3 p4 p5 (3 : Int32) (3 : Int32) r0 r1 r2 r3 b) [(.int 3), (.int 3)]) _
      refine XS.icmpYes X877.here hx rfl (pc0 := 192) (pc' := 210) rfl (hb hby at_192) rfl (flt ((by decide) : ¬ ((3 : Int32) < (3 : Int32)))).2.1 (by decide) (by decide) ?_
      show GO p e below T877 (mkF m 210 (la5 p0 p1 p2 p3 p4 p5 (3 : Int32) (3 : Int32) r0 r1 r2 r3 b) []) _
      refine st880 _ ?_
      exact kt
    exact ⟨vv_880, T880, h880, _, X880.mono (by decide) (by decide), e880, N880, fun t kt => pre881 t kt⟩
set_option maxRecDepth 65536 in
set_option maxHeartbeats 40000000 in
theorem seg_4 {p : Program} {l : Launch} {e : Env} {s : State} {m : MethodId} {args : Array Value} {below : List Frame} {meth : Method} {c : Code} {T0 : State} {locs : List Loc} {Z : State} {a0 : Array Value} (p0 : Int32) (p1 : Int32) (p2 : Int32) (p3 : Int32) (p4 : Int32) (p5 : Int32) (kk : Int32) (r0 : Int32) (r1 : Int32) (r2 : Int32) (r3 : Int32) (b : Addr) (t0 : Addr) (t1 : Addr) (t2 : Addr) (t3 : Addr) (k0 : ClassId) (k1 : ClassId) (k2 : ClassId) (k3 : ClassId) {h0 : Heap} {n0 : Nat}
    (X0 : Stand p l e room_1 s m args below meth c T0 locs 5 39) (hx : p.tables.exec = Jvm.exec) (hZ : Z.Warmed39 s.vm) (hw : ∀ d ∈ tables_1, d.before a0 Z = true) (hby : c.code = code) (hml : c.maxLocals = 14) (hown : s.vm.findClass "com/example/occupancy/occupancy/loading/BlockHoldsRearPinLaw" = some m.cls) (e0 : T0.heap = h0) (N0 : Fr n0 locs) (Z0 : n0 ≤ h0.size) (E1 : Exa Z h0 b kS0) (Fh : Fld Z h0 b kS0 "head" "I" (.int 0)) (Fs : Fld Z h0 b kS0 "size" "I" (.int 0)) (Fc : Fld Z h0 b kS0 "content" "D" (.double (0 : UInt64))) (F0 : Fld Z h0 b kS0 "agents" "[I" (.ref t0)) (V0 : Arv Z h0 t0 k0 .int (8 : Int32) [(.int 0), (.int 0), (.int 0), (.int 0), (.int 0), (.int 0), (.int 0), (.int 0)] (.int 0)) (F1 : Fld Z h0 b kS0 "legs" "[I" (.ref t1)) (V1 : Arv Z h0 t1 k1 .int (8 : Int32) [(.int 0), (.int 0), (.int 0), (.int 0), (.int 0), (.int 0), (.int 0), (.int 0)] (.int 0)) (F2 : Fld Z h0 b kS0 "amounts" "[D" (.ref t2)) (V2 : Arv Z h0 t2 k2 .double (8 : Int32) [(.double (0 : UInt64)), (.double (0 : UInt64)), (.double (0 : UInt64)), (.double (0 : UInt64)), (.double (0 : UInt64)), (.double (0 : UInt64)), (.double (0 : UInt64)), (.double (0 : UInt64))] (.double (0 : UInt64))) (F3 : Fld Z h0 b kS0 "rears" "[Z" (.ref t3)) (V3 : Arv Z h0 t3 k3 .boolean (8 : Int32) [(.int 0), (.int 0), (.int 0), (.int 0), (.int 0), (.int 0), (.int 0), (.int 0)] (.int 0)) (o1 : LT.lt (α := Nat) b t0) (o2 : LT.lt (α := Nat) t0 t1) (o3 : LT.lt (α := Nat) t1 t2) (o4 : LT.lt (α := Nat) t2 t3) (g1 : n0 ≤ b) (hk : kk = (0 : Int32) ∨ kk = (1 : Int32) ∨ kk = (2 : Int32) ∨ kk = (3 : Int32)) (hb0 : nar .boolean r0 = r0) (hb1 : nar .boolean r1 = r1) (hb2 : nar .boolean r2 = r2) (hb3 : nar .boolean r3 = r3) :
    ∃ vv : Int32, ∃ (T' : State) (h' : Heap) (locs' : List Loc), Stand p l e room_1 s m args below meth c T' locs' 5 39 ∧ T'.heap = h' ∧ Fr n0 locs' ∧
      ∀ target, Steps p.tables e below (T'.setTop (mkF m 298 #[.val (.int p0), .val (.int p1), .val (.int p2), .val (.int p3), .val (.int p4), .val (.int p5), .val (.int 4), .val (.int kk), .val (.int r0), .val (.int r1), .val (.int r2), .val (.int r3), .val (.ref b), .val (.int vv)] [(.int 1)])) target → Steps p.tables e below (T0.setTop (mkF m 80 (la5 p0 p1 p2 p3 p4 p5 (4 : Int32) kk r0 r1 r2 r3 b) [])) target := by
  have pre0 : ∀ t, Steps p.tables e below (T0.setTop (mkF m 80 (la5 p0 p1 p2 p3 p4 p5 (4 : Int32) kk r0 r1 r2 r3 b) [])) t → Steps p.tables e below (T0.setTop (mkF m 80 (la5 p0 p1 p2 p3 p4 p5 (4 : Int32) kk r0 r1 r2 r3 b) [])) t := fun _ k => k
  have lt_E1 := ltA E1.lt
  have lt_Fh := ltA Fh.lt
  have lt_Fs := ltA Fs.lt
  have lt_Fc := ltA Fc.lt
  have lt_F0 := ltA F0.lt
  have lt_V0 := ltA V0.lt
  have lt_F1 := ltA F1.lt
  have lt_V1 := ltA V1.lt
  have lt_F2 := ltA F2.lt
  have lt_V2 := ltA V2.lt
  have lt_F3 := ltA F3.lt
  have lt_V3 := ltA V3.lt
  -- pc 93: Block.add by rm_add0
  obtain ⟨cq882, kq882, q882a, q882b, q882c⟩ := isOf hZ e0 E1
  obtain ⟨_, _, ⟨T882, L882, k882, n882⟩, -, X882, ⟨Lc882, hQ882, l882, y882, z882⟩, st882⟩ := X0.virtualBack hx (y := (⟨kS0, "add", "(IIDZ)V"⟩ : MethodName)) (z := (⟨kS0, "add", "(IIDZ)V"⟩ : MethodName)) hown (mvT hZ (wd hw 32 rfl)) (mvT hZ (wd hw 33 rfl)) (notFace_of_selects (args := #[]) (mvT hZ (wd hw 35 rfl))) (mvT hZ (wd hw 35 rfl)) (mvT hZ (wd hw 34 rfl)) (by decide) (backOf (W := 0) (rm_add0 l Z a0 hw [] b p3 p4 FP.dconst1 r0 (0 : UInt64) t0 k0 ([(.int 0), (.int 0), (.int 0), (.int 0), (.int 0), (.int 0), (.int 0), (.int 0)]) t1 k1 ([(.int 0), (.int 0), (.int 0), (.int 0), (.int 0), (.int 0), (.int 0), (.int 0)]) t2 k2 ([(.double (0 : UInt64)), (.double (0 : UInt64)), (.double (0 : UInt64)), (.double (0 : UInt64)), (.double (0 : UInt64)), (.double (0 : UInt64)), (.double (0 : UInt64)), (.double (0 : UInt64))]) t3 k3 ([(.int 0), (.int 0), (.int 0), (.int 0), (.int 0), (.int 0), (.int 0), (.int 0)]) h0 n0 (by omega) E1 Fh Fs Fc F0 V0 F1 V1 F2 V2 F3 V3 rfl rfl rfl rfl (by first | assumption | decide | omega | exact neN (by omega)) (by first | assumption | decide | omega | exact neN (by omega)) (by first | assumption | decide | omega | exact neN (by omega)) (by first | assumption | decide | omega | exact neN (by omega)) (by first | assumption | decide | omega | exact neN (by omega)) (by unfold Jvm.Free.Fl.NoNaN64; decide +kernel)) hZ (wd hw 36 rfl) (wd hw 7 rfl) (by decide) (by decide)) q882a q882c (g := (mkF m 93 (la5 p0 p1 p2 p3 p4 p5 (4 : Int32) kk r0 r1 r2 r3 b) [(.int r0), (.double FP.dconst1), (.int p4), (.int p3), (.ref b)])) rfl (by rw [hml]; rfl) (Steps.refl _) (argsL := [(.int p3), (.int p4), (.double FP.dconst1), (.int r0)]) (rest := []) (lenOf pd_1 rfl) rfl (by show 2 * 0 + _ ≤ _; exact Nat.le_of_eq rfl) (hb hby at_93) (fun _ _ => ⟨rfl, e0, (by decide : 5 + 0 ≤ _), (by decide : 39 + 0 ≤ _)⟩)
  dsimp only [Pt.U, Pt.locs, Pt.cells, Pt.slots] at X882 l882 y882 z882 st882 hQ882
  subst l882 y882 z882
  obtain ⟨h882, e882⟩ : ∃ z, T882.heap = z := ⟨_, rfl⟩
  rw [e882] at hQ882
  obtain ⟨rfl, N882q, K882, p882_0, p882_1, p882_2, p882_3, p882_4, p882_5, p882_6, p882_7, p882_8, p882_9, p882_10, p882_11⟩ := hQ882
  have N882 := Fr.app N0 N882q
  have sz882 : h0.size ≤ h882.size := K882.1
  have lt882_0 := ltA p882_0.lt
  have lt882_5 := ltA p882_5.lt
  have lt882_7 := ltA p882_7.lt
  have lt882_9 := ltA p882_9.lt
  have lt882_11 := ltA p882_11.lt
  have f883 : Arv Z h882 t0 k0 .int (8 : Int32) [(.int p3), (.int 0), (.int 0), (.int 0), (.int 0), (.int 0), (.int 0), (.int 0)] (.int 0) := by
    have q := p882_5
    exact q
  have f884 : Arv Z h882 t1 k1 .int (8 : Int32) [(.int p4), (.int 0), (.int 0), (.int 0), (.int 0), (.int 0), (.int 0), (.int 0)] (.int 0) := by
    have q := p882_7
    exact q
  have f885 : Arv Z h882 t2 k2 .double (8 : Int32) [(.double FP.dconst1), (.double (0 : UInt64)), (.double (0 : UInt64)), (.double (0 : UInt64)), (.double (0 : UInt64)), (.double (0 : UInt64)), (.double (0 : UInt64)), (.double (0 : UInt64))] (.double (0 : UInt64)) := by
    have q := p882_9
    exact q
  have f886 : Arv Z h882 t3 k3 .boolean (8 : Int32) [(.int (nar .boolean r0)), (.int 0), (.int 0), (.int 0), (.int 0), (.int 0), (.int 0), (.int 0)] (.int 0) := by
    have q := p882_11
    exact q
  -- pc 112: Block.add by rm_add1
  obtain ⟨cq887, kq887, q887a, q887b, q887c⟩ := isOf hZ e882 p882_0
  obtain ⟨_, _, ⟨T887, L887, k887, n887⟩, -, X887, ⟨Lc887, hQ887, l887, y887, z887⟩, st887⟩ := X882.virtualBack hx (y := (⟨kS0, "add", "(IIDZ)V"⟩ : MethodName)) (z := (⟨kS0, "add", "(IIDZ)V"⟩ : MethodName)) hown (mvT hZ (wd hw 32 rfl)) (mvT hZ (wd hw 33 rfl)) (notFace_of_selects (args := #[]) (mvT hZ (wd hw 35 rfl))) (mvT hZ (wd hw 35 rfl)) (mvT hZ (wd hw 34 rfl)) (by decide) (backOf (W := 0) (rm_add1 l Z a0 hw [] b (p3 + (1 : Int32)) p4 FP.dconst1 r1 (FP.dadd (0 : UInt64) FP.dconst1) t0 k0 ([(.int p3), (.int 0), (.int 0), (.int 0), (.int 0), (.int 0), (.int 0), (.int 0)]) t1 k1 ([(.int p4), (.int 0), (.int 0), (.int 0), (.int 0), (.int 0), (.int 0), (.int 0)]) t2 k2 ([(.double FP.dconst1), (.double (0 : UInt64)), (.double (0 : UInt64)), (.double (0 : UInt64)), (.double (0 : UInt64)), (.double (0 : UInt64)), (.double (0 : UInt64)), (.double (0 : UInt64))]) t3 k3 ([(.int (nar .boolean r0)), (.int 0), (.int 0), (.int 0), (.int 0), (.int 0), (.int 0), (.int 0)]) p3 h882 n0 (by omega) p882_0 p882_1 p882_2 p882_3 p882_4 f883 p882_6 f884 p882_8 f885 p882_10 f886 rfl rfl rfl rfl (by first | assumption | decide | omega | exact neN (by omega)) (by first | assumption | decide | omega | exact neN (by omega)) (by first | assumption | decide | omega | exact neN (by omega)) (by first | assumption | decide | omega | exact neN (by omega)) (by first | assumption | decide | omega | exact neN (by omega)) (by unfold Jvm.Free.Fl.NoNaN64; decide +kernel) rfl (own_ag1 p3)) hZ (wd hw 36 rfl) (wd hw 7 rfl) (by decide) (by decide)) q887a q887c (g := (mkF m 112 (la5 p0 p1 p2 p3 p4 p5 (4 : Int32) kk r0 r1 r2 r3 b) [(.int r1), (.double FP.dconst1), (.int p4), (.int (p3 + (1 : Int32))), (.ref b)])) rfl (by rw [hml]; rfl) (Steps.refl _) (argsL := [(.int (p3 + (1 : Int32))), (.int p4), (.double FP.dconst1), (.int r1)]) (rest := []) (lenOf pd_1 rfl) rfl (by show 2 * 0 + _ ≤ _; exact Nat.le_of_eq rfl) (hb hby at_112) (fun _ _ => ⟨rfl, e882, (by decide : 5 + 0 ≤ _), (by decide : 39 + 0 ≤ _)⟩)
  dsimp only [Pt.U, Pt.locs, Pt.cells, Pt.slots] at X887 l887 y887 z887 st887 hQ887
  subst l887 y887 z887
  obtain ⟨h887, e887⟩ : ∃ z, T887.heap = z := ⟨_, rfl⟩
  rw [e887] at hQ887
  obtain ⟨rfl, N887q, K887, p887_0, p887_1, p887_2, p887_3, p887_4, p887_5, p887_6, p887_7, p887_8, p887_9, p887_10, p887_11⟩ := hQ887
  have N887 := Fr.app N882 N887q
  have sz887 : h882.size ≤ h887.size := K887.1
  have lt887_0 := ltA p887_0.lt
  have lt887_5 := ltA p887_5.lt
  have lt887_7 := ltA p887_7.lt
  have lt887_9 := ltA p887_9.lt
  have lt887_11 := ltA p887_11.lt
  have f888 : Arv Z h887 t0 k0 .int (8 : Int32) [(.int p3), (.int (p3 + (1 : Int32))), (.int 0), (.int 0), (.int 0), (.int 0), (.int 0), (.int 0)] (.int 0) := by
    have q := p887_5
    exact q
  have f889 : Arv Z h887 t1 k1 .int (8 : Int32) [(.int p4), (.int p4), (.int 0), (.int 0), (.int 0), (.int 0), (.int 0), (.int 0)] (.int 0) := by
    have q := p887_7
    exact q
  have f890 : Arv Z h887 t2 k2 .double (8 : Int32) [(.double FP.dconst1), (.double FP.dconst1), (.double (0 : UInt64)), (.double (0 : UInt64)), (.double (0 : UInt64)), (.double (0 : UInt64)), (.double (0 : UInt64)), (.double (0 : UInt64))] (.double (0 : UInt64)) := by
    have q := p887_9
    exact q
  have f891 : Arv Z h887 t3 k3 .boolean (8 : Int32) [(.int (nar .boolean r0)), (.int (nar .boolean r1)), (.int 0), (.int 0), (.int 0), (.int 0), (.int 0), (.int 0)] (.int 0) := by
    have q := p887_11
    exact q
  -- pc 131: Block.add by rm_add2
  obtain ⟨cq892, kq892, q892a, q892b, q892c⟩ := isOf hZ e887 p887_0
  obtain ⟨_, _, ⟨T892, L892, k892, n892⟩, -, X892, ⟨Lc892, hQ892, l892, y892, z892⟩, st892⟩ := X887.virtualBack hx (y := (⟨kS0, "add", "(IIDZ)V"⟩ : MethodName)) (z := (⟨kS0, "add", "(IIDZ)V"⟩ : MethodName)) hown (mvT hZ (wd hw 32 rfl)) (mvT hZ (wd hw 33 rfl)) (notFace_of_selects (args := #[]) (mvT hZ (wd hw 35 rfl))) (mvT hZ (wd hw 35 rfl)) (mvT hZ (wd hw 34 rfl)) (by decide) (backOf (W := 0) (rm_add2 l Z a0 hw [] b (p3 + (2 : Int32)) p4 FP.dconst1 r2 (FP.dadd (FP.dadd (0 : UInt64) FP.dconst1) FP.dconst1) t0 k0 ([(.int p3), (.int (p3 + (1 : Int32))), (.int 0), (.int 0), (.int 0), (.int 0), (.int 0), (.int 0)]) t1 k1 ([(.int p4), (.int p4), (.int 0), (.int 0), (.int 0), (.int 0), (.int 0), (.int 0)]) t2 k2 ([(.double FP.dconst1), (.double FP.dconst1), (.double (0 : UInt64)), (.double (0 : UInt64)), (.double (0 : UInt64)), (.double (0 : UInt64)), (.double (0 : UInt64)), (.double (0 : UInt64))]) t3 k3 ([(.int (nar .boolean r0)), (.int (nar .boolean r1)), (.int 0), (.int 0), (.int 0), (.int 0), (.int 0), (.int 0)]) (p3 + (1 : Int32)) h887 n0 (by omega) p887_0 p887_1 p887_2 p887_3 p887_4 f888 p887_6 f889 p887_8 f890 p887_10 f891 rfl rfl rfl rfl (by first | assumption | decide | omega | exact neN (by omega)) (by first | assumption | decide | omega | exact neN (by omega)) (by first | assumption | decide | omega | exact neN (by omega)) (by first | assumption | decide | omega | exact neN (by omega)) (by first | assumption | decide | omega | exact neN (by omega)) (by unfold Jvm.Free.Fl.NoNaN64; decide +kernel) rfl (own_ag2 p3)) hZ (wd hw 36 rfl) (wd hw 7 rfl) (by decide) (by decide)) q892a q892c (g := (mkF m 131 (la5 p0 p1 p2 p3 p4 p5 (4 : Int32) kk r0 r1 r2 r3 b) [(.int r2), (.double FP.dconst1), (.int p4), (.int (p3 + (2 : Int32))), (.ref b)])) rfl (by rw [hml]; rfl) (Steps.refl _) (argsL := [(.int (p3 + (2 : Int32))), (.int p4), (.double FP.dconst1), (.int r2)]) (rest := []) (lenOf pd_1 rfl) rfl (by show 2 * 0 + _ ≤ _; exact Nat.le_of_eq rfl) (hb hby at_131) (fun _ _ => ⟨rfl, e887, (by decide : 5 + 0 ≤ _), (by decide : 39 + 0 ≤ _)⟩)
  dsimp only [Pt.U, Pt.locs, Pt.cells, Pt.slots] at X892 l892 y892 z892 st892 hQ892
  subst l892 y892 z892
  obtain ⟨h892, e892⟩ : ∃ z, T892.heap = z := ⟨_, rfl⟩
  rw [e892] at hQ892
  obtain ⟨rfl, N892q, K892, p892_0, p892_1, p892_2, p892_3, p892_4, p892_5, p892_6, p892_7, p892_8, p892_9, p892_10, p892_11⟩ := hQ892
  have N892 := Fr.app N887 N892q
  have sz892 : h887.size ≤ h892.size := K892.1
  have lt892_0 := ltA p892_0.lt
  have lt892_5 := ltA p892_5.lt
  have lt892_7 := ltA p892_7.lt
  have lt892_9 := ltA p892_9.lt
  have lt892_11 := ltA p892_11.lt
  have f893 : Arv Z h892 t0 k0 .int (8 : Int32) [(.int p3), (.int (p3 + (1 : Int32))), (.int (p3 + (2 : Int32))), (.int 0), (.int 0), (.int 0), (.int 0), (.int 0)] (.int 0) := by
    have q := p892_5
    exact q
  have f894 : Arv Z h892 t1 k1 .int (8 : Int32) [(.int p4), (.int p4), (.int p4), (.int 0), (.int 0), (.int 0), (.int 0), (.int 0)] (.int 0) := by
    have q := p892_7
    exact q
  have f895 : Arv Z h892 t2 k2 .double (8 : Int32) [(.double FP.dconst1), (.double FP.dconst1), (.double FP.dconst1), (.double (0 : UInt64)), (.double (0 : UInt64)), (.double (0 : UInt64)), (.double (0 : UInt64)), (.double (0 : UInt64))] (.double (0 : UInt64)) := by
    have q := p892_9
    exact q
  have f896 : Arv Z h892 t3 k3 .boolean (8 : Int32) [(.int (nar .boolean r0)), (.int (nar .boolean r1)), (.int (nar .boolean r2)), (.int 0), (.int 0), (.int 0), (.int 0), (.int 0)] (.int 0) := by
    have q := p892_11
    exact q
  -- pc 150: Block.add by rm_add3
  obtain ⟨cq897, kq897, q897a, q897b, q897c⟩ := isOf hZ e892 p892_0
  obtain ⟨_, _, ⟨T897, L897, k897, n897⟩, -, X897, ⟨Lc897, hQ897, l897, y897, z897⟩, st897⟩ := X892.virtualBack hx (y := (⟨kS0, "add", "(IIDZ)V"⟩ : MethodName)) (z := (⟨kS0, "add", "(IIDZ)V"⟩ : MethodName)) hown (mvT hZ (wd hw 32 rfl)) (mvT hZ (wd hw 33 rfl)) (notFace_of_selects (args := #[]) (mvT hZ (wd hw 35 rfl))) (mvT hZ (wd hw 35 rfl)) (mvT hZ (wd hw 34 rfl)) (by decide) (backOf (W := 0) (rm_add3 l Z a0 hw [] b (p3 + (3 : Int32)) p4 FP.dconst1 r3 (FP.dadd (FP.dadd (FP.dadd (0 : UInt64) FP.dconst1) FP.dconst1) FP.dconst1) t0 k0 ([(.int p3), (.int (p3 + (1 : Int32))), (.int (p3 + (2 : Int32))), (.int 0), (.int 0), (.int 0), (.int 0), (.int 0)]) t1 k1 ([(.int p4), (.int p4), (.int p4), (.int 0), (.int 0), (.int 0), (.int 0), (.int 0)]) t2 k2 ([(.double FP.dconst1), (.double FP.dconst1), (.double FP.dconst1), (.double (0 : UInt64)), (.double (0 : UInt64)), (.double (0 : UInt64)), (.double (0 : UInt64)), (.double (0 : UInt64))]) t3 k3 ([(.int (nar .boolean r0)), (.int (nar .boolean r1)), (.int (nar .boolean r2)), (.int 0), (.int 0), (.int 0), (.int 0), (.int 0)]) (p3 + (2 : Int32)) h892 n0 (by omega) p892_0 p892_1 p892_2 p892_3 p892_4 f893 p892_6 f894 p892_8 f895 p892_10 f896 rfl rfl rfl rfl (by first | assumption | decide | omega | exact neN (by omega)) (by first | assumption | decide | omega | exact neN (by omega)) (by first | assumption | decide | omega | exact neN (by omega)) (by first | assumption | decide | omega | exact neN (by omega)) (by first | assumption | decide | omega | exact neN (by omega)) (by unfold Jvm.Free.Fl.NoNaN64; decide +kernel) rfl (own_ag3 p3)) hZ (wd hw 36 rfl) (wd hw 7 rfl) (by decide) (by decide)) q897a q897c (g := (mkF m 150 (la5 p0 p1 p2 p3 p4 p5 (4 : Int32) kk r0 r1 r2 r3 b) [(.int r3), (.double FP.dconst1), (.int p4), (.int (p3 + (3 : Int32))), (.ref b)])) rfl (by rw [hml]; rfl) (Steps.refl _) (argsL := [(.int (p3 + (3 : Int32))), (.int p4), (.double FP.dconst1), (.int r3)]) (rest := []) (lenOf pd_1 rfl) rfl (by show 2 * 0 + _ ≤ _; exact Nat.le_of_eq rfl) (hb hby at_150) (fun _ _ => ⟨rfl, e892, (by decide : 5 + 0 ≤ _), (by decide : 39 + 0 ≤ _)⟩)
  dsimp only [Pt.U, Pt.locs, Pt.cells, Pt.slots] at X897 l897 y897 z897 st897 hQ897
  subst l897 y897 z897
  obtain ⟨h897, e897⟩ : ∃ z, T897.heap = z := ⟨_, rfl⟩
  rw [e897] at hQ897
  obtain ⟨rfl, N897q, K897, p897_0, p897_1, p897_2, p897_3, p897_4, p897_5, p897_6, p897_7, p897_8, p897_9, p897_10, p897_11⟩ := hQ897
  have N897 := Fr.app N892 N897q
  have sz897 : h892.size ≤ h897.size := K897.1
  have lt897_0 := ltA p897_0.lt
  have lt897_5 := ltA p897_5.lt
  have lt897_7 := ltA p897_7.lt
  have lt897_9 := ltA p897_9.lt
  have lt897_11 := ltA p897_11.lt
  have f898 : Arv Z h897 t0 k0 .int (8 : Int32) [(.int p3), (.int (p3 + (1 : Int32))), (.int (p3 + (2 : Int32))), (.int (p3 + (3 : Int32))), (.int 0), (.int 0), (.int 0), (.int 0)] (.int 0) := by
    have q := p897_5
    exact q
  have f899 : Arv Z h897 t1 k1 .int (8 : Int32) [(.int p4), (.int p4), (.int p4), (.int p4), (.int 0), (.int 0), (.int 0), (.int 0)] (.int 0) := by
    have q := p897_7
    exact q
  have f900 : Arv Z h897 t2 k2 .double (8 : Int32) [(.double FP.dconst1), (.double FP.dconst1), (.double FP.dconst1), (.double FP.dconst1), (.double (0 : UInt64)), (.double (0 : UInt64)), (.double (0 : UInt64)), (.double (0 : UInt64))] (.double (0 : UInt64)) := by
    have q := p897_9
    exact q
  have f901 : Arv Z h897 t3 k3 .boolean (8 : Int32) [(.int (nar .boolean r0)), (.int (nar .boolean r1)), (.int (nar .boolean r2)), (.int (nar .boolean r3)), (.int 0), (.int 0), (.int 0), (.int 0)] (.int 0) := by
    have q := p897_11
    exact q
  have pre902 : ∀ t, Steps p.tables e below (T897.setTop (mkF m 153 (la5 p0 p1 p2 p3 p4 p5 (4 : Int32) kk r0 r1 r2 r3 b) [])) t → Steps p.tables e below (T0.setTop (mkF m 80 (la5 p0 p1 p2 p3 p4 p5 (4 : Int32) kk r0 r1 r2 r3 b) [])) t := by
    intro t kt
    refine pre0 t ?_
    show GO p e below T0 (mkF m 80 (la5 p0 p1 p2 p3 p4 p5 (4 : Int32) kk r0 r1 r2 r3 b) []) _
    refine XS.iload X0.here hx rfl (hb hby at_80) rfl ?_
    show GO p e below T0 (mkF m 82 (la5 p0 p1 p2 p3 p4 p5 (4 : Int32) kk r0 r1 r2 r3 b) [(.int 4)]) _
    refine XS.ifNo X0.here hx rfl (hb hby at_82) rfl ((if0 _ _).trans (tlt ((by decide) : (0 : Int32) < (4 : Int32))).2.2.2) ?_
    show GO p e below T0 (mkF m 85 (la5 p0 p1 p2 p3 p4 p5 (4 : Int32) kk r0 r1 r2 r3 b) []) _
    refine XS.aload X0.here hx rfl (hb hby at_85) rfl rfl ?_
    show GO p e below T0 (mkF m 87 (la5 p0 p1 p2 p3 p4 p5 (4 : Int32) kk r0 r1 r2 r3 b) [(.ref b)]) _
    refine XS.iloadN X0.here hx rfl (hb hby at_87) rfl ?_
    show GO p e below T0 (mkF m 88 (la5 p0 p1 p2 p3 p4 p5 (4 : Int32) kk r0 r1 r2 r3 b) [(.int p3), (.ref b)]) _
    refine XS.iload X0.here hx rfl (hb hby at_88) rfl ?_
    show GO p e below T0 (mkF m 90 (la5 p0 p1 p2 p3 p4 p5 (4 : Int32) kk r0 r1 r2 r3 b) [(.int p4), (.int p3), (.ref b)]) _
    refine XS.dconst1 X0.here hx rfl (hb hby at_90) rfl ?_
    show GO p e below T0 (mkF m 91 (la5 p0 p1 p2 p3 p4 p5 (4 : Int32) kk r0 r1 r2 r3 b) [(.double FP.dconst1), (.int p4), (.int p3), (.ref b)]) _
    refine XS.iload X0.here hx rfl (hb hby at_91) rfl ?_
    show GO p e below T0 (mkF m 93 (la5 p0 p1 p2 p3 p4 p5 (4 : Int32) kk r0 r1 r2 r3 b) [(.int r0), (.double FP.dconst1), (.int p4), (.int p3), (.ref b)]) _
    refine st882.trans ?_
    show GO p e below T882 (mkF m 96 (la5 p0 p1 p2 p3 p4 p5 (4 : Int32) kk r0 r1 r2 r3 b) []) _
    refine XS.iload X882.here hx rfl (hb hby at_96) rfl ?_
    show GO p e below T882 (mkF m 98 (la5 p0 p1 p2 p3 p4 p5 (4 : Int32) kk r0 r1 r2 r3 b) [(.int 4)]) _
    refine XS.iconst X882.here hx rfl (hb hby at_98) ?_
    show GO p e below T882 (mkF m 99 (la5 p0 p1 p2 p3 p4 p5 (4 : Int32) kk r0 r1 r2 r3 b) [(.int 1), (.int 4)]) _
    refine XS.icmpNo X882.here hx rfl (hb hby at_99) rfl (tlt ((by decide) : (1 : Int32) < (4 : Int32))).2.2.2 ?_
    show GO p e below T882 (mkF m 102 (la5 p0 p1 p2 p3 p4 p5 (4 : Int32) kk r0 r1 r2 r3 b) []) _
    refine XS.aload X882.here hx rfl (hb hby at_102) rfl rfl ?_
    show GO p e below T882 (mkF m 104 (la5 p0 p1 p2 p3 p4 p5 (4 : Int32) kk r0 r1 r2 r3 b) [(.ref b)]) _
    refine XS.iloadN X882.here hx rfl (hb hby at_104) rfl ?_
    show GO p e below T882 (mkF m 105 (la5 p0 p1 p2 p3 p4 p5 (4 : Int32) kk r0 r1 r2 r3 b) [(.int p3), (.ref b)]) _
    refine XS.iconst X882.here hx rfl (hb hby at_105) ?_
    show GO p e below T882 (mkF m 106 (la5 p0 p1 p2 p3 p4 p5 (4 : Int32) kk r0 r1 r2 r3 b) [(.int 1), (.int p3), (.ref b)]) _
    refine XS.iadd X882.here hx rfl (hb hby at_106) rfl ?_
    show GO p e below T882 (mkF m 107 (la5 p0 p1 p2 p3 p4 p5 (4 : Int32) kk r0 r1 r2 r3 b) [(.int (p3 + (1 : Int32))), (.ref b)]) _
    refine XS.iload X882.here hx rfl (hb hby at_107) rfl ?_
    show GO p e below T882 (mkF m 109 (la5 p0 p1 p2 p3 p4 p5 (4 : Int32) kk r0 r1 r2 r3 b) [(.int p4), (.int (p3 + (1 : Int32))), (.ref b)]) _
    refine XS.dconst1 X882.here hx rfl (hb hby at_109) rfl ?_
    show GO p e below T882 (mkF m 110 (la5 p0 p1 p2 p3 p4 p5 (4 : Int32) kk r0 r1 r2 r3 b) [(.double FP.dconst1), (.int p4), (.int (p3 + (1 : Int32))), (.ref b)]) _
    refine XS.iload X882.here hx rfl (hb hby at_110) rfl ?_
    show GO p e below T882 (mkF m 112 (la5 p0 p1 p2 p3 p4 p5 (4 : Int32) kk r0 r1 r2 r3 b) [(.int r1), (.double FP.dconst1), (.int p4), (.int (p3 + (1 : Int32))), (.ref b)]) _
    refine st887.trans ?_
    show GO p e below T887 (mkF m 115 (la5 p0 p1 p2 p3 p4 p5 (4 : Int32) kk r0 r1 r2 r3 b) []) _
    refine XS.iload X887.here hx rfl (hb hby at_115) rfl ?_
    show GO p e below T887 (mkF m 117 (la5 p0 p1 p2 p3 p4 p5 (4 : Int32) kk r0 r1 r2 r3 b) [(.int 4)]) _
    refine XS.iconst X887.here hx rfl (hb hby at_117) ?_
    show GO p e below T887 (mkF m 118 (la5 p0 p1 p2 p3 p4 p5 (4 : Int32) kk r0 r1 r2 r3 b) [(.int 2), (.int 4)]) _
    refine XS.icmpNo X887.here hx rfl (hb hby at_118) rfl (tlt ((by decide) : (2 : Int32) < (4 : Int32))).2.2.2 ?_
    show GO p e below T887 (mkF m 121 (la5 p0 p1 p2 p3 p4 p5 (4 : Int32) kk r0 r1 r2 r3 b) []) _
    refine XS.aload X887.here hx rfl (hb hby at_121) rfl rfl ?_
    show GO p e below T887 (mkF m 123 (la5 p0 p1 p2 p3 p4 p5 (4 : Int32) kk r0 r1 r2 r3 b) [(.ref b)]) _
    refine XS.iloadN X887.here hx rfl (hb hby at_123) rfl ?_
    show GO p e below T887 (mkF m 124 (la5 p0 p1 p2 p3 p4 p5 (4 : Int32) kk r0 r1 r2 r3 b) [(.int p3), (.ref b)]) _
    refine XS.iconst X887.here hx rfl (hb hby at_124) ?_
    show GO p e below T887 (mkF m 125 (la5 p0 p1 p2 p3 p4 p5 (4 : Int32) kk r0 r1 r2 r3 b) [(.int 2), (.int p3), (.ref b)]) _
    refine XS.iadd X887.here hx rfl (hb hby at_125) rfl ?_
    show GO p e below T887 (mkF m 126 (la5 p0 p1 p2 p3 p4 p5 (4 : Int32) kk r0 r1 r2 r3 b) [(.int (p3 + (2 : Int32))), (.ref b)]) _
    refine XS.iload X887.here hx rfl (hb hby at_126) rfl ?_
    show GO p e below T887 (mkF m 128 (la5 p0 p1 p2 p3 p4 p5 (4 : Int32) kk r0 r1 r2 r3 b) [(.int p4), (.int (p3 + (2 : Int32))), (.ref b)]) _
    refine XS.dconst1 X887.here hx rfl (hb hby at_128) rfl ?_
    show GO p e below T887 (mkF m 129 (la5 p0 p1 p2 p3 p4 p5 (4 : Int32) kk r0 r1 r2 r3 b) [(.double FP.dconst1), (.int p4), (.int (p3 + (2 : Int32))), (.ref b)]) _
    refine XS.iload X887.here hx rfl (hb hby at_129) rfl ?_
    show GO p e below T887 (mkF m 131 (la5 p0 p1 p2 p3 p4 p5 (4 : Int32) kk r0 r1 r2 r3 b) [(.int r2), (.double FP.dconst1), (.int p4), (.int (p3 + (2 : Int32))), (.ref b)]) _
    refine st892.trans ?_
    show GO p e below T892 (mkF m 134 (la5 p0 p1 p2 p3 p4 p5 (4 : Int32) kk r0 r1 r2 r3 b) []) _
    refine XS.iload X892.here hx rfl (hb hby at_134) rfl ?_
    show GO p e below T892 (mkF m 136 (la5 p0 p1 p2 p3 p4 p5 (4 : Int32) kk r0 r1 r2 r3 b) [(.int 4)]) _
    refine XS.iconst X892.here hx rfl (hb hby at_136) ?_
    show GO p e below T892 (mkF m 137 (la5 p0 p1 p2 p3 p4 p5 (4 : Int32) kk r0 r1 r2 r3 b) [(.int 3), (.int 4)]) _
    refine XS.icmpNo X892.here hx rfl (hb hby at_137) rfl (tlt ((by decide) : (3 : Int32) < (4 : Int32))).2.2.2 ?_
    show GO p e below T892 (mkF m 140 (la5 p0 p1 p2 p3 p4 p5 (4 : Int32) kk r0 r1 r2 r3 b) []) _
    refine XS.aload X892.here hx rfl (hb hby at_140) rfl rfl ?_
    show GO p e below T892 (mkF m 142 (la5 p0 p1 p2 p3 p4 p5 (4 : Int32) kk r0 r1 r2 r3 b) [(.ref b)]) _
    refine XS.iloadN X892.here hx rfl (hb hby at_142) rfl ?_
    show GO p e below T892 (mkF m 143 (la5 p0 p1 p2 p3 p4 p5 (4 : Int32) kk r0 r1 r2 r3 b) [(.int p3), (.ref b)]) _
    refine XS.iconst X892.here hx rfl (hb hby at_143) ?_
    show GO p e below T892 (mkF m 144 (la5 p0 p1 p2 p3 p4 p5 (4 : Int32) kk r0 r1 r2 r3 b) [(.int 3), (.int p3), (.ref b)]) _
    refine XS.iadd X892.here hx rfl (hb hby at_144) rfl ?_
    show GO p e below T892 (mkF m 145 (la5 p0 p1 p2 p3 p4 p5 (4 : Int32) kk r0 r1 r2 r3 b) [(.int (p3 + (3 : Int32))), (.ref b)]) _
    refine XS.iload X892.here hx rfl (hb hby at_145) rfl ?_
    show GO p e below T892 (mkF m 147 (la5 p0 p1 p2 p3 p4 p5 (4 : Int32) kk r0 r1 r2 r3 b) [(.int p4), (.int (p3 + (3 : Int32))), (.ref b)]) _
    refine XS.dconst1 X892.here hx rfl (hb hby at_147) rfl ?_
    show GO p e below T892 (mkF m 148 (la5 p0 p1 p2 p3 p4 p5 (4 : Int32) kk r0 r1 r2 r3 b) [(.double FP.dconst1), (.int p4), (.int (p3 + (3 : Int32))), (.ref b)]) _
    refine XS.iload X892.here hx rfl (hb hby at_148) rfl ?_
    show GO p e below T892 (mkF m 150 (la5 p0 p1 p2 p3 p4 p5 (4 : Int32) kk r0 r1 r2 r3 b) [(.int r3), (.double FP.dconst1), (.int p4), (.int (p3 + (3 : Int32))), (.ref b)]) _
    refine st897.trans ?_
    exact kt
  rcases hk with rfl | rfl | rfl | rfl
  · have pre903 : ∀ t, Steps p.tables e below (T897.setTop (mkF m 199 (la5 p0 p1 p2 p3 p4 p5 (4 : Int32) (0 : Int32) r0 r1 r2 r3 b) [(.int (p5 &&& (1 : Int32)))])) t → Steps p.tables e below (T0.setTop (mkF m 80 (la5 p0 p1 p2 p3 p4 p5 (4 : Int32) (0 : Int32) r0 r1 r2 r3 b) [])) t := by
      intro t kt
      refine pre902 t ?_
      show GO p e below T897 (mkF m 153 (la5 p0 p1 p2 p3 p4 p5 (4 : Int32) (0 : Int32) r0 r1 r2 r3 b) []) _
      refine XS.iload X897.here hx rfl (hb hby at_153) rfl ?_
      show GO p e below T897 (mkF m 155 (la5 p0 p1 p2 p3 p4 p5 (4 : Int32) (0 : Int32) r0 r1 r2 r3 b) [(.int 0)]) _
      refine XS.ifYes X897.here hx rfl (pc0 := 155) (pc' := 164) rfl (hb hby at_155) rfl ((if0 _ _).trans (flt ((by decide) : ¬ ((0 : Int32) < (0 : Int32)))).2.2.2) (by decide) (by decide) ?_
      show GO p e below T897 (mkF m 164 (la5 p0 p1 p2 p3 p4 p5 (4 : Int32) (0 : Int32) r0 r1 r2 r3 b) []) _
      refine XS.iload X897.here hx rfl (hb hby at_164) rfl ?_
      show GO p e below T897 (mkF m 166 (la5 p0 p1 p2 p3 p4 p5 (4 : Int32) (0 : Int32) r0 r1 r2 r3 b) [(.int 0)]) _
      refine XS.iconst X897.here hx rfl (hb hby at_166) ?_
      show GO p e below T897 (mkF m 167 (la5 p0 p1 p2 p3 p4 p5 (4 : Int32) (0 : Int32) r0 r1 r2 r3 b) [(.int 1), (.int 0)]) _
      refine XS.icmpYes X897.here hx rfl (pc0 := 167) (pc' := 176) rfl (hb hby at_167) rfl (flt ((by decide) : ¬ ((1 : Int32) < (0 : Int32)))).2.2.2 (by decide) (by decide) ?_
      show GO p e below T897 (mkF m 176 (la5 p0 p1 p2 p3 p4 p5 (4 : Int32) (0 : Int32) r0 r1 r2 r3 b) []) _
      refine XS.iload X897.here hx rfl (hb hby at_176) rfl ?_
      show GO p e below T897 (mkF m 178 (la5 p0 p1 p2 p3 p4 p5 (4 : Int32) (0 : Int32) r0 r1 r2 r3 b) [(.int 0)]) _
      refine XS.iconst X897.here hx rfl (hb hby at_178) ?_
      show GO p e below T897 (mkF m 179 (la5 p0 p1 p2 p3 p4 p5 (4 : Int32) (0 : Int32) r0 r1 r2 r3 b) [(.int 2), (.int 0)]) _
      refine XS.icmpYes X897.here hx rfl (pc0 := 179) (pc' := 188) rfl (hb hby at_179) rfl (flt ((by decide) : ¬ ((2 : Int32) < (0 : Int32)))).2.2.2 (by decide) (by decide) ?_
      show GO p e below T897 (mkF m 188 (la5 p0 p1 p2 p3 p4 p5 (4 : Int32) (0 : Int32) r0 r1 r2 r3 b) []) _
      refine XS.iload X897.here hx rfl (hb hby at_188) rfl ?_
      show GO p e below T897 (mkF m 190 (la5 p0 p1 p2 p3 p4 p5 (4 : Int32) (0 : Int32) r0 r1 r2 r3 b) [(.int 0)]) _
      refine XS.iload X897.here hx rfl (hb hby at_190) rfl ?_
      show GO p e below T897 (mkF m 192 (la5 p0 p1 p2 p3 p4 p5 (4 : Int32) (0 : Int32) r0 r1 r2 r3 b) [(.int 4), (.int 0)]) _
      refine XS.icmpNo X897.here hx rfl (hb hby at_192) rfl (tlt ((by decide) : (0 : Int32) < (4 : Int32))).2.1 ?_
      show GO p e below T897 (mkF m 195 (la5 p0 p1 p2 p3 p4 p5 (4 : Int32) (0 : Int32) r0 r1 r2 r3 b) []) _
      refine XS.iload X897.here hx rfl (hb hby at_195) rfl ?_
      show GO p e below T897 (mkF m 197 (la5 p0 p1 p2 p3 p4 p5 (4 : Int32) (0 : Int32) r0 r1 r2 r3 b) [(.int p5)]) _
      refine XS.iconst X897.here hx rfl (hb hby at_197) ?_
      show GO p e below T897 (mkF m 198 (la5 p0 p1 p2 p3 p4 p5 (4 : Int32) (0 : Int32) r0 r1 r2 r3 b) [(.int 1), (.int p5)]) _
      refine XS.iand X897.here hx rfl (hb hby at_198) rfl ?_
      exact kt
    by_cases hb904 : (p5 &&& (1 : Int32)) = (0 : Int32)
    · obtain ⟨vv_905, T905, h905, L905, X905, e905, N905, st905⟩ := tail_4_0 p0 p1 p2 p3 p4 p5 r0 r1 r2 r3 b t3 k3 X897 hx hZ hw hby hml hown e897 N897 (by omega) p897_0 p897_1 p897_2 p897_10 f901 (by first | assumption | decide | omega | exact neN (by omega)) (by first | assumption | decide | omega | exact neN (by omega)) (by first | assumption | decide | omega | exact neN (by omega)) (by first | assumption | decide | omega | exact neN (by omega))
      have pre906 : ∀ t, Steps p.tables e below (T905.setTop (mkF m 298 (la6 p0 p1 p2 p3 p4 p5 (4 : Int32) (0 : Int32) r0 r1 r2 r3 b vv_905) [(.int 1)])) t → Steps p.tables e below (T0.setTop (mkF m 80 (la5 p0 p1 p2 p3 p4 p5 (4 : Int32) (0 : Int32) r0 r1 r2 r3 b) [])) t := by
        intro t kt
        refine pre903 t ?_
        show GO p e below T897 (mkF m 199 (la5 p0 p1 p2 p3 p4 p5 (4 : Int32) (0 : Int32) r0 r1 r2 r3 b) [(.int (p5 &&& (1 : Int32)))]) _
        refine XS.ifYes X897.here hx rfl (pc0 := 199) (pc' := 210) rfl (hb hby at_199) rfl ((if0 _ _).trans (teq (hb904 : (p5 &&& (1 : Int32)) = (0 : Int32))).1) (by decide) (by decide) ?_
        show GO p e below T897 (mkF m 210 (la5 p0 p1 p2 p3 p4 p5 (4 : Int32) (0 : Int32) r0 r1 r2 r3 b) []) _
        refine st905 _ ?_
        exact kt
      exact ⟨vv_905, T905, h905, _, X905.mono (by decide) (by decide), e905, N905, fun t kt => pre906 t kt⟩
    · -- pc 207: Block.takeFromHead by rm_takep0
      obtain ⟨cq907, kq907, q907a, q907b, q907c⟩ := isOf hZ e897 p897_0
      obtain ⟨_, _, ⟨T907, L907, k907, n907⟩, -, X907, ⟨Lc907, hQ907, l907, y907, z907⟩, st907⟩ := X897.virtualBack hx (y := (⟨kS0, "takeFromHead", "(D)V"⟩ : MethodName)) (z := (⟨kS0, "takeFromHead", "(D)V"⟩ : MethodName)) hown (mvT hZ (wd hw 41 rfl)) (mvT hZ (wd hw 42 rfl)) (notFace_of_selects (args := #[]) (mvT hZ (wd hw 44 rfl))) (mvT hZ (wd hw 44 rfl)) (mvT hZ (wd hw 43 rfl)) (by decide) (backOf (W := 0) (rm_takep0 l Z a0 hw [] b (4602678819172646912 : UInt64) (4 : Int32) (FP.dadd (FP.dadd (FP.dadd (FP.dadd (0 : UInt64) FP.dconst1) FP.dconst1) FP.dconst1) FP.dconst1) FP.dconst1 t0 k0 ([(.int p3), (.int (p3 + (1 : Int32))), (.int (p3 + (2 : Int32))), (.int (p3 + (3 : Int32))), (.int 0), (.int 0), (.int 0), (.int 0)]) t1 k1 ([(.int p4), (.int p4), (.int p4), (.int p4), (.int 0), (.int 0), (.int 0), (.int 0)]) t2 k2 ([(.double FP.dconst1), (.double FP.dconst1), (.double FP.dconst1), (.double FP.dconst1), (.double (0 : UInt64)), (.double (0 : UInt64)), (.double (0 : UInt64)), (.double (0 : UInt64))]) t3 k3 ([(.int (nar .boolean r0)), (.int (nar .boolean r1)), (.int (nar .boolean r2)), (.int (nar .boolean r3)), (.int 0), (.int 0), (.int 0), (.int 0)]) h897 n0 (by omega) p897_0 p897_1 p897_2 p897_3 p897_4 f898 p897_6 f899 p897_8 f900 p897_10 f901 rfl rfl rfl rfl (by first | assumption | decide | omega | exact neN (by omega)) (by first | assumption | decide | omega | exact neN (by omega)) (by first | assumption | decide | omega | exact neN (by omega)) (by first | assumption | decide | omega | exact neN (by omega)) (by first | assumption | decide | omega | exact neN (by omega)) rfl (by decide +kernel) (by unfold Jvm.Free.Fl.NoNaN64; decide +kernel) (by unfold Jvm.Free.Fl.NoNaN64; decide +kernel) (by decide)) hZ (wd hw 45 rfl) (wd hw 7 rfl) (by decide) (by decide)) q907a q907c (g := (mkF m 207 (la5 p0 p1 p2 p3 p4 p5 (4 : Int32) (0 : Int32) r0 r1 r2 r3 b) [(.double (4602678819172646912 : UInt64)), (.ref b)])) rfl (by rw [hml]; rfl) (Steps.refl _) (argsL := [(.double (4602678819172646912 : UInt64))]) (rest := []) (lenOf pd_2 rfl) rfl (by show 2 * 0 + _ ≤ _; exact Nat.le_of_eq rfl) (hb hby at_207) (fun _ _ => ⟨rfl, e897, (by decide : 5 + 0 ≤ _), (by decide : 39 + 0 ≤ _)⟩)
      dsimp only [Pt.U, Pt.locs, Pt.cells, Pt.slots] at X907 l907 y907 z907 st907 hQ907
      subst l907 y907 z907
      obtain ⟨h907, e907⟩ : ∃ z, T907.heap = z := ⟨_, rfl⟩
      rw [e907] at hQ907
      obtain ⟨rfl, N907q, K907, p907_0, p907_1, p907_2, p907_3, p907_4, p907_5, p907_6, p907_7, p907_8, p907_9, p907_10, p907_11⟩ := hQ907
      have N907 := Fr.app N897 N907q
      have sz907 : h897.size ≤ h907.size := K907.1
      have lt907_0 := ltA p907_0.lt
      have lt907_5 := ltA p907_5.lt
      have lt907_7 := ltA p907_7.lt
      have lt907_9 := ltA p907_9.lt
      have lt907_11 := ltA p907_11.lt
      have f908 : Arv Z h907 t2 k2 .double (8 : Int32) [(.double (FP.dsub FP.dconst1 (4602678819172646912 : UInt64))), (.double FP.dconst1), (.double FP.dconst1), (.double FP.dconst1), (.double (0 : UInt64)), (.double (0 : UInt64)), (.double (0 : UInt64)), (.double (0 : UInt64))] (.double (0 : UInt64)) := by
        have q := p907_9
        exact q
      obtain ⟨vv_909, T909, h909, L909, X909, e909, N909, st909⟩ := tail_4_0 p0 p1 p2 p3 p4 p5 r0 r1 r2 r3 b t3 k3 X907 hx hZ hw hby hml hown e907 N907 (by omega) p907_0 p907_1 p907_2 p907_10 p907_11 (by first | assumption | decide | omega | exact neN (by omega)) (by first | assumption | decide | omega | exact neN (by omega)) (by first | assumption | decide | omega | exact neN (by omega)) (by first | assumption | decide | omega | exact neN (by omega))
      have pre910 : ∀ t, Steps p.tables e below (T909.setTop (mkF m 298 (la6 p0 p1 p2 p3 p4 p5 (4 : Int32) (0 : Int32) r0 r1 r2 r3 b vv_909) [(.int 1)])) t → Steps p.tables e below (T0.setTop (mkF m 80 (la5 p0 p1 p2 p3 p4 p5 (4 : Int32) (0 : Int32) r0 r1 r2 r3 b) [])) t := by
        intro t kt
        refine pre903 t ?_
        show GO p e below T897 (mkF m 199 (la5 p0 p1 p2 p3 p4 p5 (4 : Int32) (0 : Int32) r0 r1 r2 r3 b) [(.int (p5 &&& (1 : Int32)))]) _
        refine XS.ifNo X897.here hx rfl (hb hby at_199) rfl ((if0 _ _).trans (feq (hb904 : ¬ ((p5 &&& (1 : Int32)) = (0 : Int32)))).1) ?_
        show GO p e below T897 (mkF m 202 (la5 p0 p1 p2 p3 p4 p5 (4 : Int32) (0 : Int32) r0 r1 r2 r3 b) []) _
        refine XS.aload X897.here hx rfl (hb hby at_202) rfl rfl ?_
        show GO p e below T897 (mkF m 204 (la5 p0 p1 p2 p3 p4 p5 (4 : Int32) (0 : Int32) r0 r1 r2 r3 b) [(.ref b)]) _
        refine X897.ldc2DoubleC hx hown (mvT hZ (wd hw 46 rfl)) (g := (mkF m 204 (la5 p0 p1 p2 p3 p4 p5 (4 : Int32) (0 : Int32) r0 r1 r2 r3 b) [(.ref b)])) rfl (hb hby at_204) _ ?_
        show GO p e below T897 (mkF m 207 (la5 p0 p1 p2 p3 p4 p5 (4 : Int32) (0 : Int32) r0 r1 r2 r3 b) [(.double (4602678819172646912 : UInt64)), (.ref b)]) _
        refine st907.trans ?_
        show GO p e below T907 (mkF m 210 (la5 p0 p1 p2 p3 p4 p5 (4 : Int32) (0 : Int32) r0 r1 r2 r3 b) []) _
        refine st909 _ ?_
        exact kt
      exact ⟨vv_909, T909, h909, _, X909.mono (by decide) (by decide), e909, N909, fun t kt => pre910 t kt⟩
  · -- pc 161: Block.takeFromHead by rm_takef0
    obtain ⟨cq911, kq911, q911a, q911b, q911c⟩ := isOf hZ e897 p897_0
    obtain ⟨_, _, ⟨T911, L911, k911, n911⟩, -, X911, ⟨Lc911, hQ911, l911, y911, z911⟩, st911⟩ := X897.virtualBack hx (y := (⟨kS0, "takeFromHead", "(D)V"⟩ : MethodName)) (z := (⟨kS0, "takeFromHead", "(D)V"⟩ : MethodName)) hown (mvT hZ (wd hw 41 rfl)) (mvT hZ (wd hw 42 rfl)) (notFace_of_selects (args := #[]) (mvT hZ (wd hw 44 rfl))) (mvT hZ (wd hw 44 rfl)) (mvT hZ (wd hw 43 rfl)) (by decide) (backOf (W := 0) (rm_takef0 l Z a0 hw [] b FP.dconst1 (4 : Int32) (FP.dadd (FP.dadd (FP.dadd (FP.dadd (0 : UInt64) FP.dconst1) FP.dconst1) FP.dconst1) FP.dconst1) FP.dconst1 t0 k0 ([(.int p3), (.int (p3 + (1 : Int32))), (.int (p3 + (2 : Int32))), (.int (p3 + (3 : Int32))), (.int 0), (.int 0), (.int 0), (.int 0)]) t1 k1 ([(.int p4), (.int p4), (.int p4), (.int p4), (.int 0), (.int 0), (.int 0), (.int 0)]) t2 k2 ([(.double FP.dconst1), (.double FP.dconst1), (.double FP.dconst1), (.double FP.dconst1), (.double (0 : UInt64)), (.double (0 : UInt64)), (.double (0 : UInt64)), (.double (0 : UInt64))]) t3 k3 ([(.int (nar .boolean r0)), (.int (nar .boolean r1)), (.int (nar .boolean r2)), (.int (nar .boolean r3)), (.int 0), (.int 0), (.int 0), (.int 0)]) h897 n0 (by omega) p897_0 p897_1 p897_2 p897_3 p897_4 f898 p897_6 f899 p897_8 f900 p897_10 f901 rfl rfl rfl rfl (by first | assumption | decide | omega | exact neN (by omega)) (by first | assumption | decide | omega | exact neN (by omega)) (by first | assumption | decide | omega | exact neN (by omega)) (by first | assumption | decide | omega | exact neN (by omega)) (by first | assumption | decide | omega | exact neN (by omega)) rfl (by decide +kernel) (by unfold Jvm.Free.Fl.NoNaN64; decide +kernel)) hZ (wd hw 45 rfl) (wd hw 7 rfl) (by decide) (by decide)) q911a q911c (g := (mkF m 161 (la5 p0 p1 p2 p3 p4 p5 (4 : Int32) (1 : Int32) r0 r1 r2 r3 b) [(.double FP.dconst1), (.ref b)])) rfl (by rw [hml]; rfl) (Steps.refl _) (argsL := [(.double FP.dconst1)]) (rest := []) (lenOf pd_2 rfl) rfl (by show 2 * 0 + _ ≤ _; exact Nat.le_of_eq rfl) (hb hby at_161) (fun _ _ => ⟨rfl, e897, (by decide : 5 + 0 ≤ _), (by decide : 39 + 0 ≤ _)⟩)
    dsimp only [Pt.U, Pt.locs, Pt.cells, Pt.slots] at X911 l911 y911 z911 st911 hQ911
    subst l911 y911 z911
    obtain ⟨h911, e911⟩ : ∃ z, T911.heap = z := ⟨_, rfl⟩
    rw [e911] at hQ911
    obtain ⟨rfl, N911q, K911, p911_0, p911_1, p911_2, p911_3, p911_4, p911_5, p911_6, p911_7, p911_8, p911_9, p911_10, p911_11⟩ := hQ911
    have N911 := Fr.app N897 N911q
    have sz911 : h897.size ≤ h911.size := K911.1
    have lt911_0 := ltA p911_0.lt
    have lt911_5 := ltA p911_5.lt
    have lt911_7 := ltA p911_7.lt
    have lt911_9 := ltA p911_9.lt
    have lt911_11 := ltA p911_11.lt
    have f912 : Fld Z h911 b kS0 "size" "I" (.int 3) := by
      have q := p911_2
      rw [show ((4 : Int32) - (1 : Int32)) = (3 : Int32) from by decide] at q
      exact q
    have f913 : Fld Z h911 b kS0 "content" "D" (.double (if (3 : Int32) = (0 : Int32) then (0 : UInt64) else FP.dsub (FP.dadd (FP.dadd (FP.dadd (FP.dadd (0 : UInt64) FP.dconst1) FP.dconst1) FP.dconst1) FP.dconst1) FP.dconst1)) := by
      have q := p911_3
      rw [show ((4 : Int32) - (1 : Int32)) = (3 : Int32) from by decide] at q
      exact q
    have pre914 : ∀ t, Steps p.tables e below (T911.setTop (mkF m 199 (la5 p0 p1 p2 p3 p4 p5 (4 : Int32) (1 : Int32) r0 r1 r2 r3 b) [(.int (p5 &&& (1 : Int32)))])) t → Steps p.tables e below (T0.setTop (mkF m 80 (la5 p0 p1 p2 p3 p4 p5 (4 : Int32) (1 : Int32) r0 r1 r2 r3 b) [])) t := by
      intro t kt
      refine pre902 t ?_
      show GO p e below T897 (mkF m 153 (la5 p0 p1 p2 p3 p4 p5 (4 : Int32) (1 : Int32) r0 r1 r2 r3 b) []) _
      refine XS.iload X897.here hx rfl (hb hby at_153) rfl ?_
      show GO p e below T897 (mkF m 155 (la5 p0 p1 p2 p3 p4 p5 (4 : Int32) (1 : Int32) r0 r1 r2 r3 b) [(.int 1)]) _
      refine XS.ifNo X897.here hx rfl (hb hby at_155) rfl ((if0 _ _).trans (tlt ((by decide) : (0 : Int32) < (1 : Int32))).2.2.2) ?_
      show GO p e below T897 (mkF m 158 (la5 p0 p1 p2 p3 p4 p5 (4 : Int32) (1 : Int32) r0 r1 r2 r3 b) []) _
      refine XS.aload X897.here hx rfl (hb hby at_158) rfl rfl ?_
      show GO p e below T897 (mkF m 160 (la5 p0 p1 p2 p3 p4 p5 (4 : Int32) (1 : Int32) r0 r1 r2 r3 b) [(.ref b)]) _
      refine XS.dconst1 X897.here hx rfl (hb hby at_160) rfl ?_
      show GO p e below T897 (mkF m 161 (la5 p0 p1 p2 p3 p4 p5 (4 : Int32) (1 : Int32) r0 r1 r2 r3 b) [(.double FP.dconst1), (.ref b)]) _
      refine st911.trans ?_
      show GO p e below T911 (mkF m 164 (la5 p0 p1 p2 p3 p4 p5 (4 : Int32) (1 : Int32) r0 r1 r2 r3 b) []) _
      refine XS.iload X911.here hx rfl (hb hby at_164) rfl ?_
      show GO p e below T911 (mkF m 166 (la5 p0 p1 p2 p3 p4 p5 (4 : Int32) (1 : Int32) r0 r1 r2 r3 b) [(.int 1)]) _
      refine XS.iconst X911.here hx rfl (hb hby at_166) ?_
      show GO p e below T911 (mkF m 167 (la5 p0 p1 p2 p3 p4 p5 (4 : Int32) (1 : Int32) r0 r1 r2 r3 b) [(.int 1), (.int 1)]) _
      refine XS.icmpYes X911.here hx rfl (pc0 := 167) (pc' := 176) rfl (hb hby at_167) rfl (flt ((by decide) : ¬ ((1 : Int32) < (1 : Int32)))).2.2.2 (by decide) (by decide) ?_
      show GO p e below T911 (mkF m 176 (la5 p0 p1 p2 p3 p4 p5 (4 : Int32) (1 : Int32) r0 r1 r2 r3 b) []) _
      refine XS.iload X911.here hx rfl (hb hby at_176) rfl ?_
      show GO p e below T911 (mkF m 178 (la5 p0 p1 p2 p3 p4 p5 (4 : Int32) (1 : Int32) r0 r1 r2 r3 b) [(.int 1)]) _
      refine XS.iconst X911.here hx rfl (hb hby at_178) ?_
      show GO p e below T911 (mkF m 179 (la5 p0 p1 p2 p3 p4 p5 (4 : Int32) (1 : Int32) r0 r1 r2 r3 b) [(.int 2), (.int 1)]) _
      refine XS.icmpYes X911.here hx rfl (pc0 := 179) (pc' := 188) rfl (hb hby at_179) rfl (flt ((by decide) : ¬ ((2 : Int32) < (1 : Int32)))).2.2.2 (by decide) (by decide) ?_
      show GO p e below T911 (mkF m 188 (la5 p0 p1 p2 p3 p4 p5 (4 : Int32) (1 : Int32) r0 r1 r2 r3 b) []) _
      refine XS.iload X911.here hx rfl (hb hby at_188) rfl ?_
      show GO p e below T911 (mkF m 190 (la5 p0 p1 p2 p3 p4 p5 (4 : Int32) (1 : Int32) r0 r1 r2 r3 b) [(.int 1)]) _
      refine XS.iload X911.here hx rfl (hb hby at_190) rfl ?_
      show GO p e below T911 (mkF m 192 (la5 p0 p1 p2 p3 p4 p5 (4 : Int32) (1 : Int32) r0 r1 r2 r3 b) [(.int 4), (.int 1)]) _
      refine XS.icmpNo X911.here hx rfl (hb hby at_192) rfl (tlt ((by decide) : (1 : Int32) < (4 : Int32))).2.1 ?_
      show GO p e below T911 (mkF m 195 (la5 p0 p1 p2 p3 p4 p5 (4 : Int32) (1 : Int32) r0 r1 r2 r3 b) []) _
      refine XS.iload X911.here hx rfl (hb hby at_195) rfl ?_
      show GO p e below T911 (mkF m 197 (la5 p0 p1 p2 p3 p4 p5 (4 : Int32) (1 : Int32) r0 r1 r2 r3 b) [(.int p5)]) _
      refine XS.iconst X911.here hx rfl (hb hby at_197) ?_
      show GO p e below T911 (mkF m 198 (la5 p0 p1 p2 p3 p4 p5 (4 : Int32) (1 : Int32) r0 r1 r2 r3 b) [(.int 1), (.int p5)]) _
      refine XS.iand X911.here hx rfl (hb hby at_198) rfl ?_
      exact kt
    by_cases hb915 : (p5 &&& (1 : Int32)) = (0 : Int32)
    · obtain ⟨vv_916, T916, h916, L916, X916, e916, N916, st916⟩ := tail_4_1 p0 p1 p2 p3 p4 p5 r0 r1 r2 r3 b t3 k3 X911 hx hZ hw hby hml hown e911 N911 (by omega) p911_0 p911_1 f912 p911_10 p911_11 (by first | assumption | decide | omega | exact neN (by omega)) (by first | assumption | decide | omega | exact neN (by omega)) (by first | assumption | decide | omega | exact neN (by omega)) (by first | assumption | decide | omega | exact neN (by omega))
      have pre917 : ∀ t, Steps p.tables e below (T916.setTop (mkF m 298 (la6 p0 p1 p2 p3 p4 p5 (4 : Int32) (1 : Int32) r0 r1 r2 r3 b vv_916) [(.int 1)])) t → Steps p.tables e below (T0.setTop (mkF m 80 (la5 p0 p1 p2 p3 p4 p5 (4 : Int32) (1 : Int32) r0 r1 r2 r3 b) [])) t := by
        intro t kt
        refine pre914 t ?_
        show GO p e below T911 (mkF m 199 (la5 p0 p1 p2 p3 p4 p5 (4 : Int32) (1 : Int32) r0 r1 r2 r3 b) [(.int (p5 &&& (1 : Int32)))]) _
        refine XS.ifYes X911.here hx rfl (pc0 := 199) (pc' := 210) rfl (hb hby at_199) rfl ((if0 _ _).trans (teq (hb915 : (p5 &&& (1 : Int32)) = (0 : Int32))).1) (by decide) (by decide) ?_
        show GO p e below T911 (mkF m 210 (la5 p0 p1 p2 p3 p4 p5 (4 : Int32) (1 : Int32) r0 r1 r2 r3 b) []) _
        refine st916 _ ?_
        exact kt
      exact ⟨vv_916, T916, h916, _, X916.mono (by decide) (by decide), e916, N916, fun t kt => pre917 t kt⟩
    · -- pc 207: Block.takeFromHead by rm_takep1
      obtain ⟨cq918, kq918, q918a, q918b, q918c⟩ := isOf hZ e911 p911_0
      obtain ⟨_, _, ⟨T918, L918, k918, n918⟩, -, X918, ⟨Lc918, hQ918, l918, y918, z918⟩, st918⟩ := X911.virtualBack hx (y := (⟨kS0, "takeFromHead", "(D)V"⟩ : MethodName)) (z := (⟨kS0, "takeFromHead", "(D)V"⟩ : MethodName)) hown (mvT hZ (wd hw 41 rfl)) (mvT hZ (wd hw 42 rfl)) (notFace_of_selects (args := #[]) (mvT hZ (wd hw 44 rfl))) (mvT hZ (wd hw 44 rfl)) (mvT hZ (wd hw 43 rfl)) (by decide) (backOf (W := 0) (rm_takep1 l Z a0 hw [] b (4602678819172646912 : UInt64) (3 : Int32) (if (3 : Int32) = (0 : Int32) then (0 : UInt64) else FP.dsub (FP.dadd (FP.dadd (FP.dadd (FP.dadd (0 : UInt64) FP.dconst1) FP.dconst1) FP.dconst1) FP.dconst1) FP.dconst1) FP.dconst1 t0 k0 ([(.int p3), (.int (p3 + (1 : Int32))), (.int (p3 + (2 : Int32))), (.int (p3 + (3 : Int32))), (.int 0), (.int 0), (.int 0), (.int 0)]) t1 k1 ([(.int p4), (.int p4), (.int p4), (.int p4), (.int 0), (.int 0), (.int 0), (.int 0)]) t2 k2 ([(.double FP.dconst1), (.double FP.dconst1), (.double FP.dconst1), (.double FP.dconst1), (.double (0 : UInt64)), (.double (0 : UInt64)), (.double (0 : UInt64)), (.double (0 : UInt64))]) t3 k3 ([(.int (nar .boolean r0)), (.int (nar .boolean r1)), (.int (nar .boolean r2)), (.int (nar .boolean r3)), (.int 0), (.int 0), (.int 0), (.int 0)]) h911 n0 (by omega) p911_0 p911_1 f912 f913 p911_4 p911_5 p911_6 p911_7 p911_8 p911_9 p911_10 p911_11 rfl rfl rfl rfl (by first | assumption | decide | omega | exact neN (by omega)) (by first | assumption | decide | omega | exact neN (by omega)) (by first | assumption | decide | omega | exact neN (by omega)) (by first | assumption | decide | omega | exact neN (by omega)) (by first | assumption | decide | omega | exact neN (by omega)) rfl (by decide +kernel) (by unfold Jvm.Free.Fl.NoNaN64; decide +kernel) (by unfold Jvm.Free.Fl.NoNaN64; decide +kernel) (by decide)) hZ (wd hw 45 rfl) (wd hw 7 rfl) (by decide) (by decide)) q918a q918c (g := (mkF m 207 (la5 p0 p1 p2 p3 p4 p5 (4 : Int32) (1 : Int32) r0 r1 r2 r3 b) [(.double (4602678819172646912 : UInt64)), (.ref b)])) rfl (by rw [hml]; rfl) (Steps.refl _) (argsL := [(.double (4602678819172646912 : UInt64))]) (rest := []) (lenOf pd_2 rfl) rfl (by show 2 * 0 + _ ≤ _; exact Nat.le_of_eq rfl) (hb hby at_207) (fun _ _ => ⟨rfl, e911, (by decide : 5 + 0 ≤ _), (by decide : 39 + 0 ≤ _)⟩)
      dsimp only [Pt.U, Pt.locs, Pt.cells, Pt.slots] at X918 l918 y918 z918 st918 hQ918
      subst l918 y918 z918
      obtain ⟨h918, e918⟩ : ∃ z, T918.heap = z := ⟨_, rfl⟩
      rw [e918] at hQ918
      obtain ⟨rfl, N918q, K918, p918_0, p918_1, p918_2, p918_3, p918_4, p918_5, p918_6, p918_7, p918_8, p918_9, p918_10, p918_11⟩ := hQ918
      have N918 := Fr.app N911 N918q
      have sz918 : h911.size ≤ h918.size := K918.1
      have lt918_0 := ltA p918_0.lt
      have lt918_5 := ltA p918_5.lt
      have lt918_7 := ltA p918_7.lt
      have lt918_9 := ltA p918_9.lt
      have lt918_11 := ltA p918_11.lt
      have f919 : Arv Z h918 t2 k2 .double (8 : Int32) [(.double FP.dconst1), (.double (FP.dsub FP.dconst1 (4602678819172646912 : UInt64))), (.double FP.dconst1), (.double FP.dconst1), (.double (0 : UInt64)), (.double (0 : UInt64)), (.double (0 : UInt64)), (.double (0 : UInt64))] (.double (0 : UInt64)) := by
        have q := p918_9
        exact q
      obtain ⟨vv_920, T920, h920, L920, X920, e920, N920, st920⟩ := tail_4_1 p0 p1 p2 p3 p4 p5 r0 r1 r2 r3 b t3 k3 X918 hx hZ hw hby hml hown e918 N918 (by omega) p918_0 p918_1 p918_2 p918_10 p918_11 (by first | assumption | decide | omega | exact neN (by omega)) (by first | assumption | decide | omega | exact neN (by omega)) (by first | assumption | decide | omega | exact neN (by omega)) (by first | assumption | decide | omega | exact neN (by omega))
      have pre921 : ∀ t, Steps p.tables e below (T920.setTop (mkF m 298 (la6 p0 p1 p2 p3 p4 p5 (4 : Int32) (1 : Int32) r0 r1 r2 r3 b vv_920) [(.int 1)])) t → Steps p.tables e below (T0.setTop (mkF m 80 (la5 p0 p1 p2 p3 p4 p5 (4 : Int32) (1 : Int32) r0 r1 r2 r3 b) [])) t := by
        intro t kt
        refine pre914 t ?_
        show GO p e below T911 (mkF m 199 (la5 p0 p1 p2 p3 p4 p5 (4 : Int32) (1 : Int32) r0 r1 r2 r3 b) [(.int (p5 &&& (1 : Int32)))]) _
        refine XS.ifNo X911.here hx rfl (hb hby at_199) rfl ((if0 _ _).trans (feq (hb915 : ¬ ((p5 &&& (1 : Int32)) = (0 : Int32)))).1) ?_
        show GO p e below T911 (mkF m 202 (la5 p0 p1 p2 p3 p4 p5 (4 : Int32) (1 : Int32) r0 r1 r2 r3 b) []) _
        refine XS.aload X911.here hx rfl (hb hby at_202) rfl rfl ?_
        show GO p e below T911 (mkF m 204 (la5 p0 p1 p2 p3 p4 p5 (4 : Int32) (1 : Int32) r0 r1 r2 r3 b) [(.ref b)]) _
        refine X911.ldc2DoubleC hx hown (mvT hZ (wd hw 46 rfl)) (g := (mkF m 204 (la5 p0 p1 p2 p3 p4 p5 (4 : Int32) (1 : Int32) r0 r1 r2 r3 b) [(.ref b)])) rfl (hb hby at_204) _ ?_
        show GO p e below T911 (mkF m 207 (la5 p0 p1 p2 p3 p4 p5 (4 : Int32) (1 : Int32) r0 r1 r2 r3 b) [(.double (4602678819172646912 : UInt64)), (.ref b)]) _
        refine st918.trans ?_
        show GO p e below T918 (mkF m 210 (la5 p0 p1 p2 p3 p4 p5 (4 : Int32) (1 : Int32) r0 r1 r2 r3 b) []) _
        refine st920 _ ?_
        exact kt
      exact ⟨vv_920, T920, h920, _, X920.mono (by decide) (by decide), e920, N920, fun t kt => pre921 t kt⟩
  · -- pc 161: Block.takeFromHead by rm_takef0
    obtain ⟨cq922, kq922, q922a, q922b, q922c⟩ := isOf hZ e897 p897_0
    obtain ⟨_, _, ⟨T922, L922, k922, n922⟩, -, X922, ⟨Lc922, hQ922, l922, y922, z922⟩, st922⟩ := X897.virtualBack hx (y := (⟨kS0, "takeFromHead", "(D)V"⟩ : MethodName)) (z := (⟨kS0, "takeFromHead", "(D)V"⟩ : MethodName)) hown (mvT hZ (wd hw 41 rfl)) (mvT hZ (wd hw 42 rfl)) (notFace_of_selects (args := #[]) (mvT hZ (wd hw 44 rfl))) (mvT hZ (wd hw 44 rfl)) (mvT hZ (wd hw 43 rfl)) (by decide) (backOf (W := 0) (rm_takef0 l Z a0 hw [] b FP.dconst1 (4 : Int32) (FP.dadd (FP.dadd (FP.dadd (FP.dadd (0 : UInt64) FP.dconst1) FP.dconst1) FP.dconst1) FP.dconst1) FP.dconst1 t0 k0 ([(.int p3), (.int (p3 + (1 : Int32))), (.int (p3 + (2 : Int32))), (.int (p3 + (3 : Int32))), (.int 0), (.int 0), (.int 0), (.int 0)]) t1 k1 ([(.int p4), (.int p4), (.int p4), (.int p4), (.int 0), (.int 0), (.int 0), (.int 0)]) t2 k2 ([(.double FP.dconst1), (.double FP.dconst1), (.double FP.dconst1), (.double FP.dconst1), (.double (0 : UInt64)), (.double (0 : UInt64)), (.double (0 : UInt64)), (.double (0 : UInt64))]) t3 k3 ([(.int (nar .boolean r0)), (.int (nar .boolean r1)), (.int (nar .boolean r2)), (.int (nar .boolean r3)), (.int 0), (.int 0), (.int 0), (.int 0)]) h897 n0 (by omega) p897_0 p897_1 p897_2 p897_3 p897_4 f898 p897_6 f899 p897_8 f900 p897_10 f901 rfl rfl rfl rfl (by first | assumption | decide | omega | exact neN (by omega)) (by first | assumption | decide | omega | exact neN (by omega)) (by first | assumption | decide | omega | exact neN (by omega)) (by first | assumption | decide | omega | exact neN (by omega)) (by first | assumption | decide | omega | exact neN (by omega)) rfl (by decide +kernel) (by unfold Jvm.Free.Fl.NoNaN64; decide +kernel)) hZ (wd hw 45 rfl) (wd hw 7 rfl) (by decide) (by decide)) q922a q922c (g := (mkF m 161 (la5 p0 p1 p2 p3 p4 p5 (4 : Int32) (2 : Int32) r0 r1 r2 r3 b) [(.double FP.dconst1), (.ref b)])) rfl (by rw [hml]; rfl) (Steps.refl _) (argsL := [(.double FP.dconst1)]) (rest := []) (lenOf pd_2 rfl) rfl (by show 2 * 0 + _ ≤ _; exact Nat.le_of_eq rfl) (hb hby at_161) (fun _ _ => ⟨rfl, e897, (by decide : 5 + 0 ≤ _), (by decide : 39 + 0 ≤ _)⟩)
    dsimp only [Pt.U, Pt.locs, Pt.cells, Pt.slots] at X922 l922 y922 z922 st922 hQ922
    subst l922 y922 z922
    obtain ⟨h922, e922⟩ : ∃ z, T922.heap = z := ⟨_, rfl⟩
    rw [e922] at hQ922
    obtain ⟨rfl, N922q, K922, p922_0, p922_1, p922_2, p922_3, p922_4, p922_5, p922_6, p922_7, p922_8, p922_9, p922_10, p922_11⟩ := hQ922
    have N922 := Fr.app N897 N922q
    have sz922 : h897.size ≤ h922.size := K922.1
    have lt922_0 := ltA p922_0.lt
    have lt922_5 := ltA p922_5.lt
    have lt922_7 := ltA p922_7.lt
    have lt922_9 := ltA p922_9.lt
    have lt922_11 := ltA p922_11.lt
    have f923 : Fld Z h922 b kS0 "size" "I" (.int 3) := by
      have q := p922_2
      rw [show ((4 : Int32) - (1 : Int32)) = (3 : Int32) from by decide] at q
      exact q
    have f924 : Fld Z h922 b kS0 "content" "D" (.double (if (3 : Int32) = (0 : Int32) then (0 : UInt64) else FP.dsub (FP.dadd (FP.dadd (FP.dadd (FP.dadd (0 : UInt64) FP.dconst1) FP.dconst1) FP.dconst1) FP.dconst1) FP.dconst1)) := by
      have q := p922_3
      rw [show ((4 : Int32) - (1 : Int32)) = (3 : Int32) from by decide] at q
      exact q
    -- pc 173: Block.takeFromHead by rm_takef1
    obtain ⟨cq925, kq925, q925a, q925b, q925c⟩ := isOf hZ e922 p922_0
    obtain ⟨_, _, ⟨T925, L925, k925, n925⟩, -, X925, ⟨Lc925, hQ925, l925, y925, z925⟩, st925⟩ := X922.virtualBack hx (y := (⟨kS0, "takeFromHead", "(D)V"⟩ : MethodName)) (z := (⟨kS0, "takeFromHead", "(D)V"⟩ : MethodName)) hown (mvT hZ (wd hw 41 rfl)) (mvT hZ (wd hw 42 rfl)) (notFace_of_selects (args := #[]) (mvT hZ (wd hw 44 rfl))) (mvT hZ (wd hw 44 rfl)) (mvT hZ (wd hw 43 rfl)) (by decide) (backOf (W := 0) (rm_takef1 l Z a0 hw [] b FP.dconst1 (3 : Int32) (if (3 : Int32) = (0 : Int32) then (0 : UInt64) else FP.dsub (FP.dadd (FP.dadd (FP.dadd (FP.dadd (0 : UInt64) FP.dconst1) FP.dconst1) FP.dconst1) FP.dconst1) FP.dconst1) FP.dconst1 t0 k0 ([(.int p3), (.int (p3 + (1 : Int32))), (.int (p3 + (2 : Int32))), (.int (p3 + (3 : Int32))), (.int 0), (.int 0), (.int 0), (.int 0)]) t1 k1 ([(.int p4), (.int p4), (.int p4), (.int p4), (.int 0), (.int 0), (.int 0), (.int 0)]) t2 k2 ([(.double FP.dconst1), (.double FP.dconst1), (.double FP.dconst1), (.double FP.dconst1), (.double (0 : UInt64)), (.double (0 : UInt64)), (.double (0 : UInt64)), (.double (0 : UInt64))]) t3 k3 ([(.int (nar .boolean r0)), (.int (nar .boolean r1)), (.int (nar .boolean r2)), (.int (nar .boolean r3)), (.int 0), (.int 0), (.int 0), (.int 0)]) h922 n0 (by omega) p922_0 p922_1 f923 f924 p922_4 p922_5 p922_6 p922_7 p922_8 p922_9 p922_10 p922_11 rfl rfl rfl rfl (by first | assumption | decide | omega | exact neN (by omega)) (by first | assumption | decide | omega | exact neN (by omega)) (by first | assumption | decide | omega | exact neN (by omega)) (by first | assumption | decide | omega | exact neN (by omega)) (by first | assumption | decide | omega | exact neN (by omega)) rfl (by decide +kernel) (by unfold Jvm.Free.Fl.NoNaN64; decide +kernel)) hZ (wd hw 45 rfl) (wd hw 7 rfl) (by decide) (by decide)) q925a q925c (g := (mkF m 173 (la5 p0 p1 p2 p3 p4 p5 (4 : Int32) (2 : Int32) r0 r1 r2 r3 b) [(.double FP.dconst1), (.ref b)])) rfl (by rw [hml]; rfl) (Steps.refl _) (argsL := [(.double FP.dconst1)]) (rest := []) (lenOf pd_2 rfl) rfl (by show 2 * 0 + _ ≤ _; exact Nat.le_of_eq rfl) (hb hby at_173) (fun _ _ => ⟨rfl, e922, (by decide : 5 + 0 ≤ _), (by decide : 39 + 0 ≤ _)⟩)
    dsimp only [Pt.U, Pt.locs, Pt.cells, Pt.slots] at X925 l925 y925 z925 st925 hQ925
    subst l925 y925 z925
    obtain ⟨h925, e925⟩ : ∃ z, T925.heap = z := ⟨_, rfl⟩
    rw [e925] at hQ925
    obtain ⟨rfl, N925q, K925, p925_0, p925_1, p925_2, p925_3, p925_4, p925_5, p925_6, p925_7, p925_8, p925_9, p925_10, p925_11⟩ := hQ925
    have N925 := Fr.app N922 N925q
    have sz925 : h922.size ≤ h925.size := K925.1
    have lt925_0 := ltA p925_0.lt
    have lt925_5 := ltA p925_5.lt
    have lt925_7 := ltA p925_7.lt
    have lt925_9 := ltA p925_9.lt
    have lt925_11 := ltA p925_11.lt
    have f926 : Fld Z h925 b kS0 "size" "I" (.int 2) := by
      have q := p925_2
      rw [show ((3 : Int32) - (1 : Int32)) = (2 : Int32) from by decide] at q
      exact q
    have f927 : Fld Z h925 b kS0 "content" "D" (.double (if (2 : Int32) = (0 : Int32) then (0 : UInt64) else FP.dsub (if (3 : Int32) = (0 : Int32) then (0 : UInt64) else FP.dsub (FP.dadd (FP.dadd (FP.dadd (FP.dadd (0 : UInt64) FP.dconst1) FP.dconst1) FP.dconst1) FP.dconst1) FP.dconst1) FP.dconst1)) := by
      have q := p925_3
      rw [show ((3 : Int32) - (1 : Int32)) = (2 : Int32) from by decide] at q
      exact q
    have pre928 : ∀ t, Steps p.tables e below (T925.setTop (mkF m 199 (la5 p0 p1 p2 p3 p4 p5 (4 : Int32) (2 : Int32) r0 r1 r2 r3 b) [(.int (p5 &&& (1 : Int32)))])) t → Steps p.tables e below (T0.setTop (mkF m 80 (la5 p0 p1 p2 p3 p4 p5 (4 : Int32) (2 : Int32) r0 r1 r2 r3 b) [])) t := by
      intro t kt
      refine pre902 t ?_
      show GO p e below T897 (mkF m 153 (la5 p0 p1 p2 p3 p4 p5 (4 : Int32) (2 : Int32) r0 r1 r2 r3 b) []) _
      refine XS.iload X897.here hx rfl (hb hby at_153) rfl ?_
      show GO p e below T897 (mkF m 155 (la5 p0 p1 p2 p3 p4 p5 (4 : Int32) (2 : Int32) r0 r1 r2 r3 b) [(.int 2)]) _
      refine XS.ifNo X897.here hx rfl (hb hby at_155) rfl ((if0 _ _).trans (tlt ((by decide) : (0 : Int32) < (2 : Int32))).2.2.2) ?_
      show GO p e below T897 (mkF m 158 (la5 p0 p1 p2 p3 p4 p5 (4 : Int32) (2 : Int32) r0 r1 r2 r3 b) []) _
      refine XS.aload X897.here hx rfl (hb hby at_158) rfl rfl ?_
      show GO p e below T897 (mkF m 160 (la5 p0 p1 p2 p3 p4 p5 (4 : Int32) (2 : Int32) r0 r1 r2 r3 b) [(.ref b)]) _
      refine XS.dconst1 X897.here hx rfl (hb hby at_160) rfl ?_
      show GO p e below T897 (mkF m 161 (la5 p0 p1 p2 p3 p4 p5 (4 : Int32) (2 : Int32) r0 r1 r2 r3 b) [(.double FP.dconst1), (.ref b)]) _
      refine st922.trans ?_
      show GO p e below T922 (mkF m 164 (la5 p0 p1 p2 p3 p4 p5 (4 : Int32) (2 : Int32) r0 r1 r2 r3 b) []) _
      refine XS.iload X922.here hx rfl (hb hby at_164) rfl ?_
      show GO p e below T922 (mkF m 166 (la5 p0 p1 p2 p3 p4 p5 (4 : Int32) (2 : Int32) r0 r1 r2 r3 b) [(.int 2)]) _
      refine XS.iconst X922.here hx rfl (hb hby at_166) ?_
      show GO p e below T922 (mkF m 167 (la5 p0 p1 p2 p3 p4 p5 (4 : Int32) (2 : Int32) r0 r1 r2 r3 b) [(.int 1), (.int 2)]) _
      refine XS.icmpNo X922.here hx rfl (hb hby at_167) rfl (tlt ((by decide) : (1 : Int32) < (2 : Int32))).2.2.2 ?_
      show GO p e below T922 (mkF m 170 (la5 p0 p1 p2 p3 p4 p5 (4 : Int32) (2 : Int32) r0 r1 r2 r3 b) []) _
      refine XS.aload X922.here hx rfl (hb hby at_170) rfl rfl ?_
      show GO p e below T922 (mkF m 172 (la5 p0 p1 p2 p3 p4 p5 (4 : Int32) (2 : Int32) r0 r1 r2 r3 b) [(.ref b)]) _
      refine XS.dconst1 X922.here hx rfl (hb hby at_172) rfl ?_
      show GO p e below T922 (mkF m 173 (la5 p0 p1 p2 p3 p4 p5 (4 : Int32) (2 : Int32) r0 r1 r2 r3 b) [(.double FP.dconst1), (.ref b)]) _
      refine st925.trans ?_
      show GO p e below T925 (mkF m 176 (la5 p0 p1 p2 p3 p4 p5 (4 : Int32) (2 : Int32) r0 r1 r2 r3 b) []) _
      refine XS.iload X925.here hx rfl (hb hby at_176) rfl ?_
      show GO p e below T925 (mkF m 178 (la5 p0 p1 p2 p3 p4 p5 (4 : Int32) (2 : Int32) r0 r1 r2 r3 b) [(.int 2)]) _
      refine XS.iconst X925.here hx rfl (hb hby at_178) ?_
      show GO p e below T925 (mkF m 179 (la5 p0 p1 p2 p3 p4 p5 (4 : Int32) (2 : Int32) r0 r1 r2 r3 b) [(.int 2), (.int 2)]) _
      refine XS.icmpYes X925.here hx rfl (pc0 := 179) (pc' := 188) rfl (hb hby at_179) rfl (flt ((by decide) : ¬ ((2 : Int32) < (2 : Int32)))).2.2.2 (by decide) (by decide) ?_
      show GO p e below T925 (mkF m 188 (la5 p0 p1 p2 p3 p4 p5 (4 : Int32) (2 : Int32) r0 r1 r2 r3 b) []) _
      refine XS.iload X925.here hx rfl (hb hby at_188) rfl ?_
      show GO p e below T925 (mkF m 190 (la5 p0 p1 p2 p3 p4 p5 (4 : Int32) (2 : Int32) r0 r1 r2 r3 b) [(.int 2)]) _
      refine XS.iload X925.here hx rfl (hb hby at_190) rfl ?_
      show GO p e below T925 (mkF m 192 (la5 p0 p1 p2 p3 p4 p5 (4 : Int32) (2 : Int32) r0 r1 r2 r3 b) [(.int 4), (.int 2)]) _
      refine XS.icmpNo X925.here hx rfl (hb hby at_192) rfl (tlt ((by decide) : (2 : Int32) < (4 : Int32))).2.1 ?_
      show GO p e below T925 (mkF m 195 (la5 p0 p1 p2 p3 p4 p5 (4 : Int32) (2 : Int32) r0 r1 r2 r3 b) []) _
      refine XS.iload X925.here hx rfl (hb hby at_195) rfl ?_
      show GO p e below T925 (mkF m 197 (la5 p0 p1 p2 p3 p4 p5 (4 : Int32) (2 : Int32) r0 r1 r2 r3 b) [(.int p5)]) _
      refine XS.iconst X925.here hx rfl (hb hby at_197) ?_
      show GO p e below T925 (mkF m 198 (la5 p0 p1 p2 p3 p4 p5 (4 : Int32) (2 : Int32) r0 r1 r2 r3 b) [(.int 1), (.int p5)]) _
      refine XS.iand X925.here hx rfl (hb hby at_198) rfl ?_
      exact kt
    by_cases hb929 : (p5 &&& (1 : Int32)) = (0 : Int32)
    · obtain ⟨vv_930, T930, h930, L930, X930, e930, N930, st930⟩ := tail_4_2 p0 p1 p2 p3 p4 p5 r0 r1 r2 r3 b t3 k3 X925 hx hZ hw hby hml hown e925 N925 (by omega) p925_0 p925_1 f926 p925_10 p925_11 (by first | assumption | decide | omega | exact neN (by omega)) (by first | assumption | decide | omega | exact neN (by omega)) (by first | assumption | decide | omega | exact neN (by omega)) (by first | assumption | decide | omega | exact neN (by omega))
      have pre931 : ∀ t, Steps p.tables e below (T930.setTop (mkF m 298 (la6 p0 p1 p2 p3 p4 p5 (4 : Int32) (2 : Int32) r0 r1 r2 r3 b vv_930) [(.int 1)])) t → Steps p.tables e below (T0.setTop (mkF m 80 (la5 p0 p1 p2 p3 p4 p5 (4 : Int32) (2 : Int32) r0 r1 r2 r3 b) [])) t := by
        intro t kt
        refine pre928 t ?_
        show GO p e below T925 (mkF m 199 (la5 p0 p1 p2 p3 p4 p5 (4 : Int32) (2 : Int32) r0 r1 r2 r3 b) [(.int (p5 &&& (1 : Int32)))]) _
        refine XS.ifYes X925.here hx rfl (pc0 := 199) (pc' := 210) rfl (hb hby at_199) rfl ((if0 _ _).trans (teq (hb929 : (p5 &&& (1 : Int32)) = (0 : Int32))).1) (by decide) (by decide) ?_
        show GO p e below T925 (mkF m 210 (la5 p0 p1 p2 p3 p4 p5 (4 : Int32) (2 : Int32) r0 r1 r2 r3 b) []) _
        refine st930 _ ?_
        exact kt
      exact ⟨vv_930, T930, h930, _, X930.mono (by decide) (by decide), e930, N930, fun t kt => pre931 t kt⟩
    · -- pc 207: Block.takeFromHead by rm_takep2
      obtain ⟨cq932, kq932, q932a, q932b, q932c⟩ := isOf hZ e925 p925_0
      obtain ⟨_, _, ⟨T932, L932, k932, n932⟩, -, X932, ⟨Lc932, hQ932, l932, y932, z932⟩, st932⟩ := X925.virtualBack hx (y := (⟨kS0, "takeFromHead", "(D)V"⟩ : MethodName)) (z := (⟨kS0, "takeFromHead", "(D)V"⟩ : MethodName)) hown (mvT hZ (wd hw 41 rfl)) (mvT hZ (wd hw 42 rfl)) (notFace_of_selects (args := #[]) (mvT hZ (wd hw 44 rfl))) (mvT hZ (wd hw 44 rfl)) (mvT hZ (wd hw 43 rfl)) (by decide) (backOf (W := 0) (rm_takep2 l Z a0 hw [] b (4602678819172646912 : UInt64) (2 : Int32) (if (2 : Int32) = (0 : Int32) then (0 : UInt64) else FP.dsub (if (3 : Int32) = (0 : Int32) then (0 : UInt64) else FP.dsub (FP.dadd (FP.dadd (FP.dadd (FP.dadd (0 : UInt64) FP.dconst1) FP.dconst1) FP.dconst1) FP.dconst1) FP.dconst1) FP.dconst1) FP.dconst1 t0 k0 ([(.int p3), (.int (p3 + (1 : Int32))), (.int (p3 + (2 : Int32))), (.int (p3 + (3 : Int32))), (.int 0), (.int 0), (.int 0), (.int 0)]) t1 k1 ([(.int p4), (.int p4), (.int p4), (.int p4), (.int 0), (.int 0), (.int 0), (.int 0)]) t2 k2 ([(.double FP.dconst1), (.double FP.dconst1), (.double FP.dconst1), (.double FP.dconst1), (.double (0 : UInt64)), (.double (0 : UInt64)), (.double (0 : UInt64)), (.double (0 : UInt64))]) t3 k3 ([(.int (nar .boolean r0)), (.int (nar .boolean r1)), (.int (nar .boolean r2)), (.int (nar .boolean r3)), (.int 0), (.int 0), (.int 0), (.int 0)]) h925 n0 (by omega) p925_0 p925_1 f926 f927 p925_4 p925_5 p925_6 p925_7 p925_8 p925_9 p925_10 p925_11 rfl rfl rfl rfl (by first | assumption | decide | omega | exact neN (by omega)) (by first | assumption | decide | omega | exact neN (by omega)) (by first | assumption | decide | omega | exact neN (by omega)) (by first | assumption | decide | omega | exact neN (by omega)) (by first | assumption | decide | omega | exact neN (by omega)) rfl (by decide +kernel) (by unfold Jvm.Free.Fl.NoNaN64; decide +kernel) (by unfold Jvm.Free.Fl.NoNaN64; decide +kernel) (by decide)) hZ (wd hw 45 rfl) (wd hw 7 rfl) (by decide) (by decide)) q932a q932c (g := (mkF m 207 (la5 p0 p1 p2 p3 p4 p5 (4 : Int32) (2 : Int32) r0 r1 r2 r3 b) [(.double (4602678819172646912 : UInt64)), (.ref b)])) rfl (by rw [hml]; rfl) (Steps.refl _) (argsL := [(.double (4602678819172646912 : UInt64))]) (rest := []) (lenOf pd_2 rfl) rfl (by show 2 * 0 + _ ≤ _; exact Nat.le_of_eq rfl) (hb hby at_207) (fun _ _ => ⟨rfl, e925, (by decide : 5 + 0 ≤ _), (by decide : 39 + 0 ≤ _)⟩)
      dsimp only [Pt.U, Pt.locs, Pt.cells, Pt.slots] at X932 l932 y932 z932 st932 hQ932
      subst l932 y932 z932
      obtain ⟨h932, e932⟩ : ∃ z, T932.heap = z := ⟨_, rfl⟩
      rw [e932] at hQ932
      obtain ⟨rfl, N932q, K932, p932_0, p932_1, p932_2, p932_3, p932_4, p932_5, p932_6, p932_7, p932_8, p932_9, p932_10, p932_11⟩ := hQ932
      have N932 := Fr.app N925 N932q
      have sz932 : h925.size ≤ h932.size := K932.1
      have lt932_0 := ltA p932_0.lt
      have lt932_5 := ltA p932_5.lt
      have lt932_7 := ltA p932_7.lt
      have lt932_9 := ltA p932_9.lt
      have lt932_11 := ltA p932_11.lt
      have f933 : Arv Z h932 t2 k2 .double (8 : Int32) [(.double FP.dconst1), (.double FP.dconst1), (.double (FP.dsub FP.dconst1 (4602678819172646912 : UInt64))), (.double FP.dconst1), (.double (0 : UInt64)), (.double (0 : UInt64)), (.double (0 : UInt64)), (.double (0 : UInt64))] (.double (0 : UInt64)) := by
        have q := p932_9
        exact q
      obtain ⟨vv_934, T934, h934, L934, X934, e934, N934, st934⟩ := tail_4_2 p0 p1 p2 p3 p4 p5 r0 r1 r2 r3 b t3 k3 X932 hx hZ hw hby hml hown e932 N932 (by omega) p932_0 p932_1 p932_2 p932_10 p932_11 (by first | assumption | decide | omega | exact neN (by omega)) (by first | assumption | decide | omega | exact neN (by omega)) (by first | assumption | decide | omega | exact neN (by omega)) (by first | assumption | decide | omega | exact neN (by omega))
      have pre935 : ∀ t, Steps p.tables e below (T934.setTop (mkF m 298 (la6 p0 p1 p2 p3 p4 p5 (4 : Int32) (2 : Int32) r0 r1 r2 r3 b vv_934) [(.int 1)])) t → Steps p.tables e below (T0.setTop (mkF m 80 (la5 p0 p1 p2 p3 p4 p5 (4 : Int32) (2 : Int32) r0 r1 r2 r3 b) [])) t := by
        intro t kt
        refine pre928 t ?_
        show GO p e below T925 (mkF m 199 (la5 p0 p1 p2 p3 p4 p5 (4 : Int32) (2 : Int32) r0 r1 r2 r3 b) [(.int (p5 &&& (1 : Int32)))]) _
        refine XS.ifNo X925.here hx rfl (hb hby at_199) rfl ((if0 _ _).trans (feq (hb929 : ¬ ((p5 &&& (1 : Int32)) = (0 : Int32)))).1) ?_
        show GO p e below T925 (mkF m 202 (la5 p0 p1 p2 p3 p4 p5 (4 : Int32) (2 : Int32) r0 r1 r2 r3 b) []) _
        refine XS.aload X925.here hx rfl (hb hby at_202) rfl rfl ?_
        show GO p e below T925 (mkF m 204 (la5 p0 p1 p2 p3 p4 p5 (4 : Int32) (2 : Int32) r0 r1 r2 r3 b) [(.ref b)]) _
        refine X925.ldc2DoubleC hx hown (mvT hZ (wd hw 46 rfl)) (g := (mkF m 204 (la5 p0 p1 p2 p3 p4 p5 (4 : Int32) (2 : Int32) r0 r1 r2 r3 b) [(.ref b)])) rfl (hb hby at_204) _ ?_
        show GO p e below T925 (mkF m 207 (la5 p0 p1 p2 p3 p4 p5 (4 : Int32) (2 : Int32) r0 r1 r2 r3 b) [(.double (4602678819172646912 : UInt64)), (.ref b)]) _
        refine st932.trans ?_
        show GO p e below T932 (mkF m 210 (la5 p0 p1 p2 p3 p4 p5 (4 : Int32) (2 : Int32) r0 r1 r2 r3 b) []) _
        refine st934 _ ?_
        exact kt
      exact ⟨vv_934, T934, h934, _, X934.mono (by decide) (by decide), e934, N934, fun t kt => pre935 t kt⟩
  · -- pc 161: Block.takeFromHead by rm_takef0
    obtain ⟨cq936, kq936, q936a, q936b, q936c⟩ := isOf hZ e897 p897_0
    obtain ⟨_, _, ⟨T936, L936, k936, n936⟩, -, X936, ⟨Lc936, hQ936, l936, y936, z936⟩, st936⟩ := X897.virtualBack hx (y := (⟨kS0, "takeFromHead", "(D)V"⟩ : MethodName)) (z := (⟨kS0, "takeFromHead", "(D)V"⟩ : MethodName)) hown (mvT hZ (wd hw 41 rfl)) (mvT hZ (wd hw 42 rfl)) (notFace_of_selects (args := #[]) (mvT hZ (wd hw 44 rfl))) (mvT hZ (wd hw 44 rfl)) (mvT hZ (wd hw 43 rfl)) (by decide) (backOf (W := 0) (rm_takef0 l Z a0 hw [] b FP.dconst1 (4 : Int32) (FP.dadd (FP.dadd (FP.dadd (FP.dadd (0 : UInt64) FP.dconst1) FP.dconst1) FP.dconst1) FP.dconst1) FP.dconst1 t0 k0 ([(.int p3), (.int (p3 + (1 : Int32))), (.int (p3 + (2 : Int32))), (.int (p3 + (3 : Int32))), (.int 0), (.int 0), (.int 0), (.int 0)]) t1 k1 ([(.int p4), (.int p4), (.int p4), (.int p4), (.int 0), (.int 0), (.int 0), (.int 0)]) t2 k2 ([(.double FP.dconst1), (.double FP.dconst1), (.double FP.dconst1), (.double FP.dconst1), (.double (0 : UInt64)), (.double (0 : UInt64)), (.double (0 : UInt64)), (.double (0 : UInt64))]) t3 k3 ([(.int (nar .boolean r0)), (.int (nar .boolean r1)), (.int (nar .boolean r2)), (.int (nar .boolean r3)), (.int 0), (.int 0), (.int 0), (.int 0)]) h897 n0 (by omega) p897_0 p897_1 p897_2 p897_3 p897_4 f898 p897_6 f899 p897_8 f900 p897_10 f901 rfl rfl rfl rfl (by first | assumption | decide | omega | exact neN (by omega)) (by first | assumption | decide | omega | exact neN (by omega)) (by first | assumption | decide | omega | exact neN (by omega)) (by first | assumption | decide | omega | exact neN (by omega)) (by first | assumption | decide | omega | exact neN (by omega)) rfl (by decide +kernel) (by unfold Jvm.Free.Fl.NoNaN64; decide +kernel)) hZ (wd hw 45 rfl) (wd hw 7 rfl) (by decide) (by decide)) q936a q936c (g := (mkF m 161 (la5 p0 p1 p2 p3 p4 p5 (4 : Int32) (3 : Int32) r0 r1 r2 r3 b) [(.double FP.dconst1), (.ref b)])) rfl (by rw [hml]; rfl) (Steps.refl _) (argsL := [(.double FP.dconst1)]) (rest := []) (lenOf pd_2 rfl) rfl (by show 2 * 0 + _ ≤ _; exact Nat.le_of_eq rfl) (hb hby at_161) (fun _ _ => ⟨rfl, e897, (by decide : 5 + 0 ≤ _), (by decide : 39 + 0 ≤ _)⟩)
    dsimp only [Pt.U, Pt.locs, Pt.cells, Pt.slots] at X936 l936 y936 z936 st936 hQ936
    subst l936 y936 z936
    obtain ⟨h936, e936⟩ : ∃ z, T936.heap = z := ⟨_, rfl⟩
    rw [e936] at hQ936
    obtain ⟨rfl, N936q, K936, p936_0, p936_1, p936_2, p936_3, p936_4, p936_5, p936_6, p936_7, p936_8, p936_9, p936_10, p936_11⟩ := hQ936
    have N936 := Fr.app N897 N936q
    have sz936 : h897.size ≤ h936.size := K936.1
    have lt936_0 := ltA p936_0.lt
    have lt936_5 := ltA p936_5.lt
    have lt936_7 := ltA p936_7.lt
    have lt936_9 := ltA p936_9.lt
    have lt936_11 := ltA p936_11.lt
    have f937 : Fld Z h936 b kS0 "size" "I" (.int 3) := by
      have q := p936_2
      rw [show ((4 : Int32) - (1 : Int32)) = (3 : Int32) from by decide] at q
      exact q
    have f938 : Fld Z h936 b kS0 "content" "D" (.double (if (3 : Int32) = (0 : Int32) then (0 : UInt64) else FP.dsub (FP.dadd (FP.dadd (FP.dadd (FP.dadd (0 : UInt64) FP.dconst1) FP.dconst1) FP.dconst1) FP.dconst1) FP.dconst1)) := by
      have q := p936_3
      rw [show ((4 : Int32) - (1 : Int32)) = (3 : Int32) from by decide] at q
      exact q
    -- pc 173: Block.takeFromHead by rm_takef1
    obtain ⟨cq939, kq939, q939a, q939b, q939c⟩ := isOf hZ e936 p936_0
    obtain ⟨_, _, ⟨T939, L939, k939, n939⟩, -, X939, ⟨Lc939, hQ939, l939, y939, z939⟩, st939⟩ := X936.virtualBack hx (y := (⟨kS0, "takeFromHead", "(D)V"⟩ : MethodName)) (z := (⟨kS0, "takeFromHead", "(D)V"⟩ : MethodName)) hown (mvT hZ (wd hw 41 rfl)) (mvT hZ (wd hw 42 rfl)) (notFace_of_selects (args := #[]) (mvT hZ (wd hw 44 rfl))) (mvT hZ (wd hw 44 rfl)) (mvT hZ (wd hw 43 rfl)) (by decide) (backOf (W := 0) (rm_takef1 l Z a0 hw [] b FP.dconst1 (3 : Int32) (if (3 : Int32) = (0 : Int32) then (0 : UInt64) else FP.dsub (FP.dadd (FP.dadd (FP.dadd (FP.dadd (0 : UInt64) FP.dconst1) FP.dconst1) FP.dconst1) FP.dconst1) FP.dconst1) FP.dconst1 t0 k0 ([(.int p3), (.int (p3 + (1 : Int32))), (.int (p3 + (2 : Int32))), (.int (p3 + (3 : Int32))), (.int 0), (.int 0), (.int 0), (.int 0)]) t1 k1 ([(.int p4), (.int p4), (.int p4), (.int p4), (.int 0), (.int 0), (.int 0), (.int 0)]) t2 k2 ([(.double FP.dconst1), (.double FP.dconst1), (.double FP.dconst1), (.double FP.dconst1), (.double (0 : UInt64)), (.double (0 : UInt64)), (.double (0 : UInt64)), (.double (0 : UInt64))]) t3 k3 ([(.int (nar .boolean r0)), (.int (nar .boolean r1)), (.int (nar .boolean r2)), (.int (nar .boolean r3)), (.int 0), (.int 0), (.int 0), (.int 0)]) h936 n0 (by omega) p936_0 p936_1 f937 f938 p936_4 p936_5 p936_6 p936_7 p936_8 p936_9 p936_10 p936_11 rfl rfl rfl rfl (by first | assumption | decide | omega | exact neN (by omega)) (by first | assumption | decide | omega | exact neN (by omega)) (by first | assumption | decide | omega | exact neN (by omega)) (by first | assumption | decide | omega | exact neN (by omega)) (by first | assumption | decide | omega | exact neN (by omega)) rfl (by decide +kernel) (by unfold Jvm.Free.Fl.NoNaN64; decide +kernel)) hZ (wd hw 45 rfl) (wd hw 7 rfl) (by decide) (by decide)) q939a q939c (g := (mkF m 173 (la5 p0 p1 p2 p3 p4 p5 (4 : Int32) (3 : Int32) r0 r1 r2 r3 b) [(.double FP.dconst1), (.ref b)])) rfl (by rw [hml]; rfl) (Steps.refl _) (argsL := [(.double FP.dconst1)]) (rest := []) (lenOf pd_2 rfl) rfl (by show 2 * 0 + _ ≤ _; exact Nat.le_of_eq rfl) (hb hby at_173) (fun _ _ => ⟨rfl, e936, (by decide : 5 + 0 ≤ _), (by decide : 39 + 0 ≤ _)⟩)
    dsimp only [Pt.U, Pt.locs, Pt.cells, Pt.slots] at X939 l939 y939 z939 st939 hQ939
    subst l939 y939 z939
    obtain ⟨h939, e939⟩ : ∃ z, T939.heap = z := ⟨_, rfl⟩
    rw [e939] at hQ939
    obtain ⟨rfl, N939q, K939, p939_0, p939_1, p939_2, p939_3, p939_4, p939_5, p939_6, p939_7, p939_8, p939_9, p939_10, p939_11⟩ := hQ939
    have N939 := Fr.app N936 N939q
    have sz939 : h936.size ≤ h939.size := K939.1
    have lt939_0 := ltA p939_0.lt
    have lt939_5 := ltA p939_5.lt
    have lt939_7 := ltA p939_7.lt
    have lt939_9 := ltA p939_9.lt
    have lt939_11 := ltA p939_11.lt
    have f940 : Fld Z h939 b kS0 "size" "I" (.int 2) := by
      have q := p939_2
      rw [show ((3 : Int32) - (1 : Int32)) = (2 : Int32) from by decide] at q
      exact q
    have f941 : Fld Z h939 b kS0 "content" "D" (.double (if (2 : Int32) = (0 : Int32) then (0 : UInt64) else FP.dsub (if (3 : Int32) = (0 : Int32) then (0 : UInt64) else FP.dsub (FP.dadd (FP.dadd (FP.dadd (FP.dadd (0 : UInt64) FP.dconst1) FP.dconst1) FP.dconst1) FP.dconst1) FP.dconst1) FP.dconst1)) := by
      have q := p939_3
      rw [show ((3 : Int32) - (1 : Int32)) = (2 : Int32) from by decide] at q
      exact q
    -- pc 185: Block.takeFromHead by rm_takef2
    obtain ⟨cq942, kq942, q942a, q942b, q942c⟩ := isOf hZ e939 p939_0
    obtain ⟨_, _, ⟨T942, L942, k942, n942⟩, -, X942, ⟨Lc942, hQ942, l942, y942, z942⟩, st942⟩ := X939.virtualBack hx (y := (⟨kS0, "takeFromHead", "(D)V"⟩ : MethodName)) (z := (⟨kS0, "takeFromHead", "(D)V"⟩ : MethodName)) hown (mvT hZ (wd hw 41 rfl)) (mvT hZ (wd hw 42 rfl)) (notFace_of_selects (args := #[]) (mvT hZ (wd hw 44 rfl))) (mvT hZ (wd hw 44 rfl)) (mvT hZ (wd hw 43 rfl)) (by decide) (backOf (W := 0) (rm_takef2 l Z a0 hw [] b FP.dconst1 (2 : Int32) (if (2 : Int32) = (0 : Int32) then (0 : UInt64) else FP.dsub (if (3 : Int32) = (0 : Int32) then (0 : UInt64) else FP.dsub (FP.dadd (FP.dadd (FP.dadd (FP.dadd (0 : UInt64) FP.dconst1) FP.dconst1) FP.dconst1) FP.dconst1) FP.dconst1) FP.dconst1) FP.dconst1 t0 k0 ([(.int p3), (.int (p3 + (1 : Int32))), (.int (p3 + (2 : Int32))), (.int (p3 + (3 : Int32))), (.int 0), (.int 0), (.int 0), (.int 0)]) t1 k1 ([(.int p4), (.int p4), (.int p4), (.int p4), (.int 0), (.int 0), (.int 0), (.int 0)]) t2 k2 ([(.double FP.dconst1), (.double FP.dconst1), (.double FP.dconst1), (.double FP.dconst1), (.double (0 : UInt64)), (.double (0 : UInt64)), (.double (0 : UInt64)), (.double (0 : UInt64))]) t3 k3 ([(.int (nar .boolean r0)), (.int (nar .boolean r1)), (.int (nar .boolean r2)), (.int (nar .boolean r3)), (.int 0), (.int 0), (.int 0), (.int 0)]) h939 n0 (by omega) p939_0 p939_1 f940 f941 p939_4 p939_5 p939_6 p939_7 p939_8 p939_9 p939_10 p939_11 rfl rfl rfl rfl (by first | assumption | decide | omega | exact neN (by omega)) (by first | assumption | decide | omega | exact neN (by omega)) (by first | assumption | decide | omega | exact neN (by omega)) (by first | assumption | decide | omega | exact neN (by omega)) (by first | assumption | decide | omega | exact neN (by omega)) rfl (by decide +kernel) (by unfold Jvm.Free.Fl.NoNaN64; decide +kernel)) hZ (wd hw 45 rfl) (wd hw 7 rfl) (by decide) (by decide)) q942a q942c (g := (mkF m 185 (la5 p0 p1 p2 p3 p4 p5 (4 : Int32) (3 : Int32) r0 r1 r2 r3 b) [(.double FP.dconst1), (.ref b)])) rfl (by rw [hml]; rfl) (Steps.refl _) (argsL := [(.double FP.dconst1)]) (rest := []) (lenOf pd_2 rfl) rfl (by show 2 * 0 + _ ≤ _; exact Nat.le_of_eq rfl) (hb hby at_185) (fun _ _ => ⟨rfl, e939, (by decide : 5 + 0 ≤ _), (by decide : 39 + 0 ≤ _)⟩)
    dsimp only [Pt.U, Pt.locs, Pt.cells, Pt.slots] at X942 l942 y942 z942 st942 hQ942
    subst l942 y942 z942
    obtain ⟨h942, e942⟩ : ∃ z, T942.heap = z := ⟨_, rfl⟩
    rw [e942] at hQ942
    obtain ⟨rfl, N942q, K942, p942_0, p942_1, p942_2, p942_3, p942_4, p942_5, p942_6, p942_7, p942_8, p942_9, p942_10, p942_11⟩ := hQ942
    have N942 := Fr.app N939 N942q
    have sz942 : h939.size ≤ h942.size := K942.1
    have lt942_0 := ltA p942_0.lt
    have lt942_5 := ltA p942_5.lt
    have lt942_7 := ltA p942_7.lt
    have lt942_9 := ltA p942_9.lt
    have lt942_11 := ltA p942_11.lt
    have f943 : Fld Z h942 b kS0 "size" "I" (.int 1) := by
      have q := p942_2
      rw [show ((2 : Int32) - (1 : Int32)) = (1 : Int32) from by decide] at q
      exact q
    have f944 : Fld Z h942 b kS0 "content" "D" (.double (if (1 : Int32) = (0 : Int32) then (0 : UInt64) else FP.dsub (if (2 : Int32) = (0 : Int32) then (0 : UInt64) else FP.dsub (if (3 : Int32) = (0 : Int32) then (0 : UInt64) else FP.dsub (FP.dadd (FP.dadd (FP.dadd (FP.dadd (0 : UInt64) FP.dconst1) FP.dconst1) FP.dconst1) FP.dconst1) FP.dconst1) FP.dconst1) FP.dconst1)) := by
      have q := p942_3
      rw [show ((2 : Int32) - (1 : Int32)) = (1 : Int32) from by decide] at q
      exact q
    have pre945 : ∀ t, Steps p.tables e below (T942.setTop (mkF m 199 (la5 p0 p1 p2 p3 p4 p5 (4 : Int32) (3 : Int32) r0 r1 r2 r3 b) [(.int (p5 &&& (1 : Int32)))])) t → Steps p.tables e below (T0.setTop (mkF m 80 (la5 p0 p1 p2 p3 p4 p5 (4 : Int32) (3 : Int32) r0 r1 r2 r3 b) [])) t := by
      intro t kt
      refine pre902 t ?_
      show GO p e below T897 (mkF m 153 (la5 p0 p1 p2 p3 p4 p5 (4 : Int32) (3 : Int32) r0 r1 r2 r3 b) []) _
      refine XS.iload X897.here hx rfl (hb hby at_153) rfl ?_
      show GO p e below T897 (mkF m 155 (la5 p0 p1 p2 p3 p4 p5 (4 : Int32) (3 : Int32) r0 r1 r2 r3 b) [(.int 3)]) _
      refine XS.ifNo X897.here hx rfl (hb hby at_155) rfl ((if0 _ _).trans (tlt ((by decide) : (0 : Int32) < (3 : Int32))).2.2.2) ?_
      show GO p e below T897 (mkF m 158 (la5 p0 p1 p2 p3 p4 p5 (4 : Int32) (3 : Int32) r0 r1 r2 r3 b) []) _
      refine XS.aload X897.here hx rfl (hb hby at_158) rfl rfl ?_
      show GO p e below T897 (mkF m 160 (la5 p0 p1 p2 p3 p4 p5 (4 : Int32) (3 : Int32) r0 r1 r2 r3 b) [(.ref b)]) _
      refine XS.dconst1 X897.here hx rfl (hb hby at_160) rfl ?_
      show GO p e below T897 (mkF m 161 (la5 p0 p1 p2 p3 p4 p5 (4 : Int32) (3 : Int32) r0 r1 r2 r3 b) [(.double FP.dconst1), (.ref b)]) _
      refine st936.trans ?_
      show GO p e below T936 (mkF m 164 (la5 p0 p1 p2 p3 p4 p5 (4 : Int32) (3 : Int32) r0 r1 r2 r3 b) []) _
      refine XS.iload X936.here hx rfl (hb hby at_164) rfl ?_
      show GO p e below T936 (mkF m 166 (la5 p0 p1 p2 p3 p4 p5 (4 : Int32) (3 : Int32) r0 r1 r2 r3 b) [(.int 3)]) _
      refine XS.iconst X936.here hx rfl (hb hby at_166) ?_
      show GO p e below T936 (mkF m 167 (la5 p0 p1 p2 p3 p4 p5 (4 : Int32) (3 : Int32) r0 r1 r2 r3 b) [(.int 1), (.int 3)]) _
      refine XS.icmpNo X936.here hx rfl (hb hby at_167) rfl (tlt ((by decide) : (1 : Int32) < (3 : Int32))).2.2.2 ?_
      show GO p e below T936 (mkF m 170 (la5 p0 p1 p2 p3 p4 p5 (4 : Int32) (3 : Int32) r0 r1 r2 r3 b) []) _
      refine XS.aload X936.here hx rfl (hb hby at_170) rfl rfl ?_
      show GO p e below T936 (mkF m 172 (la5 p0 p1 p2 p3 p4 p5 (4 : Int32) (3 : Int32) r0 r1 r2 r3 b) [(.ref b)]) _
      refine XS.dconst1 X936.here hx rfl (hb hby at_172) rfl ?_
      show GO p e below T936 (mkF m 173 (la5 p0 p1 p2 p3 p4 p5 (4 : Int32) (3 : Int32) r0 r1 r2 r3 b) [(.double FP.dconst1), (.ref b)]) _
      refine st939.trans ?_
      show GO p e below T939 (mkF m 176 (la5 p0 p1 p2 p3 p4 p5 (4 : Int32) (3 : Int32) r0 r1 r2 r3 b) []) _
      refine XS.iload X939.here hx rfl (hb hby at_176) rfl ?_
      show GO p e below T939 (mkF m 178 (la5 p0 p1 p2 p3 p4 p5 (4 : Int32) (3 : Int32) r0 r1 r2 r3 b) [(.int 3)]) _
      refine XS.iconst X939.here hx rfl (hb hby at_178) ?_
      show GO p e below T939 (mkF m 179 (la5 p0 p1 p2 p3 p4 p5 (4 : Int32) (3 : Int32) r0 r1 r2 r3 b) [(.int 2), (.int 3)]) _
      refine XS.icmpNo X939.here hx rfl (hb hby at_179) rfl (tlt ((by decide) : (2 : Int32) < (3 : Int32))).2.2.2 ?_
      show GO p e below T939 (mkF m 182 (la5 p0 p1 p2 p3 p4 p5 (4 : Int32) (3 : Int32) r0 r1 r2 r3 b) []) _
      refine XS.aload X939.here hx rfl (hb hby at_182) rfl rfl ?_
      show GO p e below T939 (mkF m 184 (la5 p0 p1 p2 p3 p4 p5 (4 : Int32) (3 : Int32) r0 r1 r2 r3 b) [(.ref b)]) _
      refine XS.dconst1 X939.here hx rfl (hb hby at_184) rfl ?_
      show GO p e below T939 (mkF m 185 (la5 p0 p1 p2 p3 p4 p5 (4 : Int32) (3 : Int32) r0 r1 r2 r3 b) [(.double FP.dconst1), (.ref b)]) _
      refine st942.trans ?_
      show GO p e below T942 (mkF m 188 (la5 p0 p1 p2 p3 p4 p5 (4 : Int32) (3 : Int32) r0 r1 r2 r3 b) []) _
      refine XS.iload X942.here hx rfl (hb hby at_188) rfl ?_
      show GO p e below T942 (mkF m 190 (la5 p0 p1 p2 p3 p4 p5 (4 : Int32) (3 : Int32) r0 r1 r2 r3 b) [(.int 3)]) _
      refine XS.iload X942.here hx rfl (hb hby at_190) rfl ?_
      show GO p e below T942 (mkF m 192 (la5 p0 p1 p2 p3 p4 p5 (4 : Int32) (3 : Int32) r0 r1 r2 r3 b) [(.int 4), (.int 3)]) _
      refine XS.icmpNo X942.here hx rfl (hb hby at_192) rfl (tlt ((by decide) : (3 : Int32) < (4 : Int32))).2.1 ?_
      show GO p e below T942 (mkF m 195 (la5 p0 p1 p2 p3 p4 p5 (4 : Int32) (3 : Int32) r0 r1 r2 r3 b) []) _
      refine XS.iload X942.here hx rfl (hb hby at_195) rfl ?_
      show GO p e below T942 (mkF m 197 (la5 p0 p1 p2 p3 p4 p5 (4 : Int32) (3 : Int32) r0 r1 r2 r3 b) [(.int p5)]) _
      refine XS.iconst X942.here hx rfl (hb hby at_197) ?_
      show GO p e below T942 (mkF m 198 (la5 p0 p1 p2 p3 p4 p5 (4 : Int32) (3 : Int32) r0 r1 r2 r3 b) [(.int 1), (.int p5)]) _
      refine XS.iand X942.here hx rfl (hb hby at_198) rfl ?_
      exact kt
    by_cases hb946 : (p5 &&& (1 : Int32)) = (0 : Int32)
    · obtain ⟨vv_947, T947, h947, L947, X947, e947, N947, st947⟩ := tail_4_3 p0 p1 p2 p3 p4 p5 r0 r1 r2 r3 b t3 k3 X942 hx hZ hw hby hml hown e942 N942 (by omega) p942_0 p942_1 f943 p942_10 p942_11 (by first | assumption | decide | omega | exact neN (by omega)) (by first | assumption | decide | omega | exact neN (by omega)) (by first | assumption | decide | omega | exact neN (by omega)) (by first | assumption | decide | omega | exact neN (by omega))
      have pre948 : ∀ t, Steps p.tables e below (T947.setTop (mkF m 298 (la6 p0 p1 p2 p3 p4 p5 (4 : Int32) (3 : Int32) r0 r1 r2 r3 b vv_947) [(.int 1)])) t → Steps p.tables e below (T0.setTop (mkF m 80 (la5 p0 p1 p2 p3 p4 p5 (4 : Int32) (3 : Int32) r0 r1 r2 r3 b) [])) t := by
        intro t kt
        refine pre945 t ?_
        show GO p e below T942 (mkF m 199 (la5 p0 p1 p2 p3 p4 p5 (4 : Int32) (3 : Int32) r0 r1 r2 r3 b) [(.int (p5 &&& (1 : Int32)))]) _
        refine XS.ifYes X942.here hx rfl (pc0 := 199) (pc' := 210) rfl (hb hby at_199) rfl ((if0 _ _).trans (teq (hb946 : (p5 &&& (1 : Int32)) = (0 : Int32))).1) (by decide) (by decide) ?_
        show GO p e below T942 (mkF m 210 (la5 p0 p1 p2 p3 p4 p5 (4 : Int32) (3 : Int32) r0 r1 r2 r3 b) []) _
        refine st947 _ ?_
        exact kt
      exact ⟨vv_947, T947, h947, _, X947.mono (by decide) (by decide), e947, N947, fun t kt => pre948 t kt⟩
    · -- pc 207: Block.takeFromHead by rm_takep3
      obtain ⟨cq949, kq949, q949a, q949b, q949c⟩ := isOf hZ e942 p942_0
      obtain ⟨_, _, ⟨T949, L949, k949, n949⟩, -, X949, ⟨Lc949, hQ949, l949, y949, z949⟩, st949⟩ := X942.virtualBack hx (y := (⟨kS0, "takeFromHead", "(D)V"⟩ : MethodName)) (z := (⟨kS0, "takeFromHead", "(D)V"⟩ : MethodName)) hown (mvT hZ (wd hw 41 rfl)) (mvT hZ (wd hw 42 rfl)) (notFace_of_selects (args := #[]) (mvT hZ (wd hw 44 rfl))) (mvT hZ (wd hw 44 rfl)) (mvT hZ (wd hw 43 rfl)) (by decide) (backOf (W := 0) (rm_takep3 l Z a0 hw [] b (4602678819172646912 : UInt64) (1 : Int32) (if (1 : Int32) = (0 : Int32) then (0 : UInt64) else FP.dsub (if (2 : Int32) = (0 : Int32) then (0 : UInt64) else FP.dsub (if (3 : Int32) = (0 : Int32) then (0 : UInt64) else FP.dsub (FP.dadd (FP.dadd (FP.dadd (FP.dadd (0 : UInt64) FP.dconst1) FP.dconst1) FP.dconst1) FP.dconst1) FP.dconst1) FP.dconst1) FP.dconst1) FP.dconst1 t0 k0 ([(.int p3), (.int (p3 + (1 : Int32))), (.int (p3 + (2 : Int32))), (.int (p3 + (3 : Int32))), (.int 0), (.int 0), (.int 0), (.int 0)]) t1 k1 ([(.int p4), (.int p4), (.int p4), (.int p4), (.int 0), (.int 0), (.int 0), (.int 0)]) t2 k2 ([(.double FP.dconst1), (.double FP.dconst1), (.double FP.dconst1), (.double FP.dconst1), (.double (0 : UInt64)), (.double (0 : UInt64)), (.double (0 : UInt64)), (.double (0 : UInt64))]) t3 k3 ([(.int (nar .boolean r0)), (.int (nar .boolean r1)), (.int (nar .boolean r2)), (.int (nar .boolean r3)), (.int 0), (.int 0), (.int 0), (.int 0)]) h942 n0 (by omega) p942_0 p942_1 f943 f944 p942_4 p942_5 p942_6 p942_7 p942_8 p942_9 p942_10 p942_11 rfl rfl rfl rfl (by first | assumption | decide | omega | exact neN (by omega)) (by first | assumption | decide | omega | exact neN (by omega)) (by first | assumption | decide | omega | exact neN (by omega)) (by first | assumption | decide | omega | exact neN (by omega)) (by first | assumption | decide | omega | exact neN (by omega)) rfl (by decide +kernel) (by unfold Jvm.Free.Fl.NoNaN64; decide +kernel) (by unfold Jvm.Free.Fl.NoNaN64; decide +kernel) (by decide)) hZ (wd hw 45 rfl) (wd hw 7 rfl) (by decide) (by decide)) q949a q949c (g := (mkF m 207 (la5 p0 p1 p2 p3 p4 p5 (4 : Int32) (3 : Int32) r0 r1 r2 r3 b) [(.double (4602678819172646912 : UInt64)), (.ref b)])) rfl (by rw [hml]; rfl) (Steps.refl _) (argsL := [(.double (4602678819172646912 : UInt64))]) (rest := []) (lenOf pd_2 rfl) rfl (by show 2 * 0 + _ ≤ _; exact Nat.le_of_eq rfl) (hb hby at_207) (fun _ _ => ⟨rfl, e942, (by decide : 5 + 0 ≤ _), (by decide : 39 + 0 ≤ _)⟩)
      dsimp only [Pt.U, Pt.locs, Pt.cells, Pt.slots] at X949 l949 y949 z949 st949 hQ949
      subst l949 y949 z949
      obtain ⟨h949, e949⟩ : ∃ z, T949.heap = z := ⟨_, rfl⟩
      rw [e949] at hQ949
      obtain ⟨rfl, N949q, K949, p949_0, p949_1, p949_2, p949_3, p949_4, p949_5, p949_6, p949_7, p949_8, p949_9, p949_10, p949_11⟩ := hQ949
      have N949 := Fr.app N942 N949q
      have sz949 : h942.size ≤ h949.size := K949.1
      have lt949_0 := ltA p949_0.lt
      have lt949_5 := ltA p949_5.lt
      have lt949_7 := ltA p949_7.lt
      have lt949_9 := ltA p949_9.lt
      have lt949_11 := ltA p949_11.lt
      have f950 : Arv Z h949 t2 k2 .double (8 : Int32) [(.double FP.dconst1), (.double FP.dconst1), (.double FP.dconst1), (.double (FP.dsub FP.dconst1 (4602678819172646912 : UInt64))), (.double (0 : UInt64)), (.double (0 : UInt64)), (.double (0 : UInt64)), (.double (0 : UInt64))] (.double (0 : UInt64)) := by
        have q := p949_9
        exact q
      obtain ⟨vv_951, T951, h951, L951, X951, e951, N951, st951⟩ := tail_4_3 p0 p1 p2 p3 p4 p5 r0 r1 r2 r3 b t3 k3 X949 hx hZ hw hby hml hown e949 N949 (by omega) p949_0 p949_1 p949_2 p949_10 p949_11 (by first | assumption | decide | omega | exact neN (by omega)) (by first | assumption | decide | omega | exact neN (by omega)) (by first | assumption | decide | omega | exact neN (by omega)) (by first | assumption | decide | omega | exact neN (by omega))
      have pre952 : ∀ t, Steps p.tables e below (T951.setTop (mkF m 298 (la6 p0 p1 p2 p3 p4 p5 (4 : Int32) (3 : Int32) r0 r1 r2 r3 b vv_951) [(.int 1)])) t → Steps p.tables e below (T0.setTop (mkF m 80 (la5 p0 p1 p2 p3 p4 p5 (4 : Int32) (3 : Int32) r0 r1 r2 r3 b) [])) t := by
        intro t kt
        refine pre945 t ?_
        show GO p e below T942 (mkF m 199 (la5 p0 p1 p2 p3 p4 p5 (4 : Int32) (3 : Int32) r0 r1 r2 r3 b) [(.int (p5 &&& (1 : Int32)))]) _
        refine XS.ifNo X942.here hx rfl (hb hby at_199) rfl ((if0 _ _).trans (feq (hb946 : ¬ ((p5 &&& (1 : Int32)) = (0 : Int32)))).1) ?_
        show GO p e below T942 (mkF m 202 (la5 p0 p1 p2 p3 p4 p5 (4 : Int32) (3 : Int32) r0 r1 r2 r3 b) []) _
        refine XS.aload X942.here hx rfl (hb hby at_202) rfl rfl ?_
        show GO p e below T942 (mkF m 204 (la5 p0 p1 p2 p3 p4 p5 (4 : Int32) (3 : Int32) r0 r1 r2 r3 b) [(.ref b)]) _
        refine X942.ldc2DoubleC hx hown (mvT hZ (wd hw 46 rfl)) (g := (mkF m 204 (la5 p0 p1 p2 p3 p4 p5 (4 : Int32) (3 : Int32) r0 r1 r2 r3 b) [(.ref b)])) rfl (hb hby at_204) _ ?_
        show GO p e below T942 (mkF m 207 (la5 p0 p1 p2 p3 p4 p5 (4 : Int32) (3 : Int32) r0 r1 r2 r3 b) [(.double (4602678819172646912 : UInt64)), (.ref b)]) _
        refine st949.trans ?_
        show GO p e below T949 (mkF m 210 (la5 p0 p1 p2 p3 p4 p5 (4 : Int32) (3 : Int32) r0 r1 r2 r3 b) []) _
        refine st951 _ ?_
        exact kt
      exact ⟨vv_951, T951, h951, _, X951.mono (by decide) (by decide), e951, N951, fun t kt => pre952 t kt⟩
def Qrm0 (Z : State) (p0 : Int32) (p1 : Int32) (p2 : Int32) (p3 : Int32) (p4 : Int32) (p5 : Int32) (h0 : Heap) (n0 : Nat) (v : Option Value) (h : Heap) (L : List Loc) : Prop := v = some (.int 1) ∧ Fr n0 L
theorem ef_rm0 (m : MethodId) (x0 : Int32) (x1 : Int32) (x2 : Int32) (x3 : Int32) (x4 : Int32) (x5 : Int32) : entryFrame m #[(.int x0), (.int x1), (.int x2), (.int x3), (.int x4), (.int x5)] maxLocals = mkF m 0 (la7 x0 x1 x2 x3 x4 x5) [] := by first | (simp [entryFrame, mkF, argsToLocals, Value.category, maxLocals]; done) | rfl
set_option maxRecDepth 65536 in
set_option maxHeartbeats 40000000 in
theorem rm0 (l : Launch) (Z : State) (a0 : Array Value) (hw : ∀ d ∈ tables_1, d.before a0 Z = true) (ws : List Jvm.Cond) (p0 : Int32) (p1 : Int32) (p2 : Int32) (p3 : Int32) (p4 : Int32) (p5 : Int32) (h0 : Heap) (n0 : Nat) (Z0 : n0 ≤ h0.size) :
    MetFree l x (head1 (Jvm.Cond.code x code maxLocals ret :: ws) room_1) (fun a U => a = #[(.int p0), (.int p1), (.int p2), (.int p3), (.int p4), (.int p5)] ∧ Z.Warmed39 U.vm ∧ U.heap = h0) (fun _ _ _ _ _ => True) (fun _ U o U' => ∃ v L, o = .returned v ∧ Qrm0 Z p0 p1 p2 p3 p4 p5 h0 n0 v U'.heap L ∧ FrameEnd U o U' L room_1.cells room_1.slots) := by
  refine MetFree.of_bodySF (plainFor_of_name pn_1) hisR ?_
  intro p e s m args below meth c s₁ Bd hml0 hP hK
  obtain ⟨rfl, hZ, hh⟩ := hP
  have hx := Bd.exec
  have hby := Bd.bytes
  have hml : c.maxLocals = 14 := hml0
  have hown : s.vm.findClass "com/example/occupancy/occupancy/loading/BlockHoldsRearPinLaw" = some m.cls := findClass_of_methodNamed Bd.named
  have hnm := (name_of_methodNamed Bd.named Bd.method).1
  have X0 : Stand p l e room_1 s m #[(.int p0), (.int p1), (.int p2), (.int p3), (.int p4), (.int p5)] below meth c s₁ [] 0 0 := Stand.of_body Bd
  have e0 : s₁.heap = h0 := by rw [← hh, Bd.state]; rfl
  have N0 := Fr.nil n0
  have pre0 : ∀ t, Steps p.tables e below (s₁.setTop (mkF m 0 (la7 p0 p1 p2 p3 p4 p5) [])) t → Steps p.tables e below (s₁.setTop (entryFrame m #[(.int p0), (.int p1), (.int p2), (.int p3), (.int p4), (.int p5)] maxLocals)) t := fun t k => castTop (ef_rm0 m p0 p1 p2 p3 p4 p5) k
  obtain ⟨nn, hnn⟩ : ∃ z, z = ((p0 &&& (2147483647 : Int32)) % (5 : Int32)) := ⟨_, rfl⟩
  -- pc 13: Math.min by rm_min
  obtain ⟨_, _, ⟨T953, L953, k953, n953⟩, -, X953, ⟨Lc953, hQ953, l953, y953, z953⟩, st953⟩ := Jvm.LawKit.callS X0 hx (y := (⟨"java/lang/Math", "min", "(II)I"⟩ : MethodName)) hown (mvT hZ (wd hw 1 rfl)) (mvT hZ (wd hw 2 rfl)) (mvT hZ (wd hw 3 rfl)) (mvT hZ (wd hw 4 rfl)) (by decide) (backOf (W := 0) (rm_min l Z a0 hw [] (p1 &&& (3 : Int32)) nn h0 n0 (by omega)) hZ (wd hw 4 rfl) (wd hw 3 rfl) (by decide) (by decide)) (g := (mkF m 13 (la8 p0 p1 p2 p3 p4 p5 nn) [(.int nn), (.int (p1 &&& (3 : Int32)))])) rfl (by rw [hml]; rfl) (argsL := [(.int (p1 &&& (3 : Int32))), (.int nn)]) (rest := []) (lenOf pd_3 rfl) rfl (by show 2 * 0 + _ ≤ _; exact Nat.le_of_eq rfl) (hb hby at_13) (fun _ _ => ⟨rfl, e0, (by decide : 0 + 0 ≤ _), (by decide : 0 + 0 ≤ _)⟩)
  dsimp only [Pt.U, Pt.locs, Pt.cells, Pt.slots] at X953 l953 y953 z953 st953 hQ953
  subst l953 y953 z953
  obtain ⟨rfl, N953q, e953⟩ := hQ953
  have N953 := Fr.app N0 N953q
  obtain ⟨kk, hkk⟩ : ∃ z, z = (own_min (p1 &&& (3 : Int32)) nn) := ⟨_, rfl⟩
  have pre954 : ∀ t, Steps p.tables e below (T953.setTop (mkF m 21 (la9 p0 p1 p2 p3 p4 p5 nn kk) [(.int (p2 &&& (1 : Int32)))])) t → Steps p.tables e below (s₁.setTop (entryFrame m #[(.int p0), (.int p1), (.int p2), (.int p3), (.int p4), (.int p5)] maxLocals)) t := by
    intro t kt
    refine pre0 t ?_
    show GO p e below s₁ (mkF m 0 (la7 p0 p1 p2 p3 p4 p5) []) _
    refine XS.iloadN X0.here hx rfl (hb hby at_0) rfl ?_
    show GO p e below s₁ (mkF m 1 (la7 p0 p1 p2 p3 p4 p5) [(.int p0)]) _
    refine X0.ldcInt hx hown (mvT hZ (wd hw 0 rfl)) (g := (mkF m 1 (la7 p0 p1 p2 p3 p4 p5) [(.int p0)])) rfl (hb hby at_1) _ ?_
    show GO p e below s₁ (mkF m 3 (la7 p0 p1 p2 p3 p4 p5) [(.int 2147483647), (.int p0)]) _
    refine XS.iand X0.here hx rfl (hb hby at_3) rfl ?_
    show GO p e below s₁ (mkF m 4 (la7 p0 p1 p2 p3 p4 p5) [(.int (p0 &&& (2147483647 : Int32)))]) _
    refine XS.iconst X0.here hx rfl (hb hby at_4) ?_
    show GO p e below s₁ (mkF m 5 (la7 p0 p1 p2 p3 p4 p5) [(.int 5), (.int (p0 &&& (2147483647 : Int32)))]) _
    refine iremM X0 hx rfl (hb hby at_5) rfl (by decide) ?_
    show GO p e below s₁ (mkF m 6 (la7 p0 p1 p2 p3 p4 p5) [(.int ((p0 &&& (2147483647 : Int32)) % (5 : Int32)))]) _
    refine XS.istore X0.here hx rfl (hb hby at_6) rfl (l' := (la8 p0 p1 p2 p3 p4 p5 ((p0 &&& (2147483647 : Int32)) % (5 : Int32)))) rfl ?_
    rw [← hnn]
    show GO p e below s₁ (mkF m 8 (la8 p0 p1 p2 p3 p4 p5 nn) []) _
    refine XS.iloadN X0.here hx rfl (hb hby at_8) rfl ?_
    show GO p e below s₁ (mkF m 9 (la8 p0 p1 p2 p3 p4 p5 nn) [(.int p1)]) _
    refine XS.iconst X0.here hx rfl (hb hby at_9) ?_
    show GO p e below s₁ (mkF m 10 (la8 p0 p1 p2 p3 p4 p5 nn) [(.int 3), (.int p1)]) _
    refine XS.iand X0.here hx rfl (hb hby at_10) rfl ?_
    show GO p e below s₁ (mkF m 11 (la8 p0 p1 p2 p3 p4 p5 nn) [(.int (p1 &&& (3 : Int32)))]) _
    refine XS.iload X0.here hx rfl (hb hby at_11) rfl ?_
    show GO p e below s₁ (mkF m 13 (la8 p0 p1 p2 p3 p4 p5 nn) [(.int nn), (.int (p1 &&& (3 : Int32)))]) _
    refine st953 _ ?_
    show GO p e below T953 (mkF m 16 (la8 p0 p1 p2 p3 p4 p5 nn) [(.int (own_min (p1 &&& (3 : Int32)) nn))]) _
    refine XS.istore X953.here hx rfl (hb hby at_16) rfl (l' := (la9 p0 p1 p2 p3 p4 p5 nn (own_min (p1 &&& (3 : Int32)) nn))) rfl ?_
    rw [← hkk]
    show GO p e below T953 (mkF m 18 (la9 p0 p1 p2 p3 p4 p5 nn kk) []) _
    refine XS.iloadN X953.here hx rfl (hb hby at_18) rfl ?_
    show GO p e below T953 (mkF m 19 (la9 p0 p1 p2 p3 p4 p5 nn kk) [(.int p2)]) _
    refine XS.iconst X953.here hx rfl (hb hby at_19) ?_
    show GO p e below T953 (mkF m 20 (la9 p0 p1 p2 p3 p4 p5 nn kk) [(.int 1), (.int p2)]) _
    refine XS.iand X953.here hx rfl (hb hby at_20) rfl ?_
    exact kt
  obtain ⟨r0, hr0, pre955⟩ : ∃ r0 : Int32, (r0 = (0 : Int32) ∨ r0 = (1 : Int32)) ∧ ∀ t, Steps p.tables e below (T953.setTop (mkF m 29 (la9 p0 p1 p2 p3 p4 p5 nn kk) [(.int r0)])) t → Steps p.tables e below (s₁.setTop (entryFrame m #[(.int p0), (.int p1), (.int p2), (.int p3), (.int p4), (.int p5)] maxLocals)) t := by
    by_cases hb956 : (p2 &&& (1 : Int32)) = (0 : Int32)
    · have pre957 : ∀ t, Steps p.tables e below (T953.setTop (mkF m 29 (la9 p0 p1 p2 p3 p4 p5 nn kk) [(.int 0)])) t → Steps p.tables e below (s₁.setTop (entryFrame m #[(.int p0), (.int p1), (.int p2), (.int p3), (.int p4), (.int p5)] maxLocals)) t := by
        intro t kt
        refine pre954 t ?_
        show GO p e below T953 (mkF m 21 (la9 p0 p1 p2 p3 p4 p5 nn kk) [(.int (p2 &&& (1 : Int32)))]) _
        refine XS.ifYes X953.here hx rfl (pc0 := 21) (pc' := 28) rfl (hb hby at_21) rfl ((if0 _ _).trans (teq (hb956 : (p2 &&& (1 : Int32)) = (0 : Int32))).1) (by decide) (by decide) ?_
        show GO p e below T953 (mkF m 28 (la9 p0 p1 p2 p3 p4 p5 nn kk) []) _
        refine XS.iconst X953.here hx rfl (hb hby at_28) ?_
        exact kt
      exact ⟨(0 : Int32), Or.inl rfl, fun t kt => pre957 t kt⟩
    · have pre958 : ∀ t, Steps p.tables e below (T953.setTop (mkF m 29 (la9 p0 p1 p2 p3 p4 p5 nn kk) [(.int 1)])) t → Steps p.tables e below (s₁.setTop (entryFrame m #[(.int p0), (.int p1), (.int p2), (.int p3), (.int p4), (.int p5)] maxLocals)) t := by
        intro t kt
        refine pre954 t ?_
        show GO p e below T953 (mkF m 21 (la9 p0 p1 p2 p3 p4 p5 nn kk) [(.int (p2 &&& (1 : Int32)))]) _
        refine XS.ifNo X953.here hx rfl (hb hby at_21) rfl ((if0 _ _).trans (feq (hb956 : ¬ ((p2 &&& (1 : Int32)) = (0 : Int32)))).1) ?_
        show GO p e below T953 (mkF m 24 (la9 p0 p1 p2 p3 p4 p5 nn kk) []) _
        refine XS.iconst X953.here hx rfl (hb hby at_24) ?_
        show GO p e below T953 (mkF m 25 (la9 p0 p1 p2 p3 p4 p5 nn kk) [(.int 1)]) _
        refine XS.goto X953.here hx rfl (pc0 := 25) (pc' := 29) rfl (hb hby at_25) (by decide) (by decide) ?_
        exact kt
      exact ⟨(1 : Int32), Or.inr rfl, fun t kt => pre958 t kt⟩
  have hb0 := own_narb hr0
  have pre959 : ∀ t, Steps p.tables e below (T953.setTop (mkF m 34 (la10 p0 p1 p2 p3 p4 p5 nn kk r0) [(.int (p2 &&& (2 : Int32)))])) t → Steps p.tables e below (s₁.setTop (entryFrame m #[(.int p0), (.int p1), (.int p2), (.int p3), (.int p4), (.int p5)] maxLocals)) t := by
    intro t kt
    refine pre955 t ?_
    show GO p e below T953 (mkF m 29 (la9 p0 p1 p2 p3 p4 p5 nn kk) [(.int r0)]) _
    refine XS.istore X953.here hx rfl (hb hby at_29) rfl (l' := (la10 p0 p1 p2 p3 p4 p5 nn kk r0)) rfl ?_
    show GO p e below T953 (mkF m 31 (la10 p0 p1 p2 p3 p4 p5 nn kk r0) []) _
    refine XS.iloadN X953.here hx rfl (hb hby at_31) rfl ?_
    show GO p e below T953 (mkF m 32 (la10 p0 p1 p2 p3 p4 p5 nn kk r0) [(.int p2)]) _
    refine XS.iconst X953.here hx rfl (hb hby at_32) ?_
    show GO p e below T953 (mkF m 33 (la10 p0 p1 p2 p3 p4 p5 nn kk r0) [(.int 2), (.int p2)]) _
    refine XS.iand X953.here hx rfl (hb hby at_33) rfl ?_
    exact kt
  obtain ⟨r1, hr1, pre960⟩ : ∃ r1 : Int32, (r1 = (0 : Int32) ∨ r1 = (1 : Int32)) ∧ ∀ t, Steps p.tables e below (T953.setTop (mkF m 42 (la10 p0 p1 p2 p3 p4 p5 nn kk r0) [(.int r1)])) t → Steps p.tables e below (s₁.setTop (entryFrame m #[(.int p0), (.int p1), (.int p2), (.int p3), (.int p4), (.int p5)] maxLocals)) t := by
    by_cases hb961 : (p2 &&& (2 : Int32)) = (0 : Int32)
    · have pre962 : ∀ t, Steps p.tables e below (T953.setTop (mkF m 42 (la10 p0 p1 p2 p3 p4 p5 nn kk r0) [(.int 0)])) t → Steps p.tables e below (s₁.setTop (entryFrame m #[(.int p0), (.int p1), (.int p2), (.int p3), (.int p4), (.int p5)] maxLocals)) t := by
        intro t kt
        refine pre959 t ?_
        show GO p e below T953 (mkF m 34 (la10 p0 p1 p2 p3 p4 p5 nn kk r0) [(.int (p2 &&& (2 : Int32)))]) _
        refine XS.ifYes X953.here hx rfl (pc0 := 34) (pc' := 41) rfl (hb hby at_34) rfl ((if0 _ _).trans (teq (hb961 : (p2 &&& (2 : Int32)) = (0 : Int32))).1) (by decide) (by decide) ?_
        show GO p e below T953 (mkF m 41 (la10 p0 p1 p2 p3 p4 p5 nn kk r0) []) _
        refine XS.iconst X953.here hx rfl (hb hby at_41) ?_
        exact kt
      exact ⟨(0 : Int32), Or.inl rfl, fun t kt => pre962 t kt⟩
    · have pre963 : ∀ t, Steps p.tables e below (T953.setTop (mkF m 42 (la10 p0 p1 p2 p3 p4 p5 nn kk r0) [(.int 1)])) t → Steps p.tables e below (s₁.setTop (entryFrame m #[(.int p0), (.int p1), (.int p2), (.int p3), (.int p4), (.int p5)] maxLocals)) t := by
        intro t kt
        refine pre959 t ?_
        show GO p e below T953 (mkF m 34 (la10 p0 p1 p2 p3 p4 p5 nn kk r0) [(.int (p2 &&& (2 : Int32)))]) _
        refine XS.ifNo X953.here hx rfl (hb hby at_34) rfl ((if0 _ _).trans (feq (hb961 : ¬ ((p2 &&& (2 : Int32)) = (0 : Int32)))).1) ?_
        show GO p e below T953 (mkF m 37 (la10 p0 p1 p2 p3 p4 p5 nn kk r0) []) _
        refine XS.iconst X953.here hx rfl (hb hby at_37) ?_
        show GO p e below T953 (mkF m 38 (la10 p0 p1 p2 p3 p4 p5 nn kk r0) [(.int 1)]) _
        refine XS.goto X953.here hx rfl (pc0 := 38) (pc' := 42) rfl (hb hby at_38) (by decide) (by decide) ?_
        exact kt
      exact ⟨(1 : Int32), Or.inr rfl, fun t kt => pre963 t kt⟩
  have hb1 := own_narb hr1
  have pre964 : ∀ t, Steps p.tables e below (T953.setTop (mkF m 47 (la11 p0 p1 p2 p3 p4 p5 nn kk r0 r1) [(.int (p2 &&& (4 : Int32)))])) t → Steps p.tables e below (s₁.setTop (entryFrame m #[(.int p0), (.int p1), (.int p2), (.int p3), (.int p4), (.int p5)] maxLocals)) t := by
    intro t kt
    refine pre960 t ?_
    show GO p e below T953 (mkF m 42 (la10 p0 p1 p2 p3 p4 p5 nn kk r0) [(.int r1)]) _
    refine XS.istore X953.here hx rfl (hb hby at_42) rfl (l' := (la11 p0 p1 p2 p3 p4 p5 nn kk r0 r1)) rfl ?_
    show GO p e below T953 (mkF m 44 (la11 p0 p1 p2 p3 p4 p5 nn kk r0 r1) []) _
    refine XS.iloadN X953.here hx rfl (hb hby at_44) rfl ?_
    show GO p e below T953 (mkF m 45 (la11 p0 p1 p2 p3 p4 p5 nn kk r0 r1) [(.int p2)]) _
    refine XS.iconst X953.here hx rfl (hb hby at_45) ?_
    show GO p e below T953 (mkF m 46 (la11 p0 p1 p2 p3 p4 p5 nn kk r0 r1) [(.int 4), (.int p2)]) _
    refine XS.iand X953.here hx rfl (hb hby at_46) rfl ?_
    exact kt
  obtain ⟨r2, hr2, pre965⟩ : ∃ r2 : Int32, (r2 = (0 : Int32) ∨ r2 = (1 : Int32)) ∧ ∀ t, Steps p.tables e below (T953.setTop (mkF m 55 (la11 p0 p1 p2 p3 p4 p5 nn kk r0 r1) [(.int r2)])) t → Steps p.tables e below (s₁.setTop (entryFrame m #[(.int p0), (.int p1), (.int p2), (.int p3), (.int p4), (.int p5)] maxLocals)) t := by
    by_cases hb966 : (p2 &&& (4 : Int32)) = (0 : Int32)
    · have pre967 : ∀ t, Steps p.tables e below (T953.setTop (mkF m 55 (la11 p0 p1 p2 p3 p4 p5 nn kk r0 r1) [(.int 0)])) t → Steps p.tables e below (s₁.setTop (entryFrame m #[(.int p0), (.int p1), (.int p2), (.int p3), (.int p4), (.int p5)] maxLocals)) t := by
        intro t kt
        refine pre964 t ?_
        show GO p e below T953 (mkF m 47 (la11 p0 p1 p2 p3 p4 p5 nn kk r0 r1) [(.int (p2 &&& (4 : Int32)))]) _
        refine XS.ifYes X953.here hx rfl (pc0 := 47) (pc' := 54) rfl (hb hby at_47) rfl ((if0 _ _).trans (teq (hb966 : (p2 &&& (4 : Int32)) = (0 : Int32))).1) (by decide) (by decide) ?_
        show GO p e below T953 (mkF m 54 (la11 p0 p1 p2 p3 p4 p5 nn kk r0 r1) []) _
        refine XS.iconst X953.here hx rfl (hb hby at_54) ?_
        exact kt
      exact ⟨(0 : Int32), Or.inl rfl, fun t kt => pre967 t kt⟩
    · have pre968 : ∀ t, Steps p.tables e below (T953.setTop (mkF m 55 (la11 p0 p1 p2 p3 p4 p5 nn kk r0 r1) [(.int 1)])) t → Steps p.tables e below (s₁.setTop (entryFrame m #[(.int p0), (.int p1), (.int p2), (.int p3), (.int p4), (.int p5)] maxLocals)) t := by
        intro t kt
        refine pre964 t ?_
        show GO p e below T953 (mkF m 47 (la11 p0 p1 p2 p3 p4 p5 nn kk r0 r1) [(.int (p2 &&& (4 : Int32)))]) _
        refine XS.ifNo X953.here hx rfl (hb hby at_47) rfl ((if0 _ _).trans (feq (hb966 : ¬ ((p2 &&& (4 : Int32)) = (0 : Int32)))).1) ?_
        show GO p e below T953 (mkF m 50 (la11 p0 p1 p2 p3 p4 p5 nn kk r0 r1) []) _
        refine XS.iconst X953.here hx rfl (hb hby at_50) ?_
        show GO p e below T953 (mkF m 51 (la11 p0 p1 p2 p3 p4 p5 nn kk r0 r1) [(.int 1)]) _
        refine XS.goto X953.here hx rfl (pc0 := 51) (pc' := 55) rfl (hb hby at_51) (by decide) (by decide) ?_
        exact kt
      exact ⟨(1 : Int32), Or.inr rfl, fun t kt => pre968 t kt⟩
  have hb2 := own_narb hr2
  have pre969 : ∀ t, Steps p.tables e below (T953.setTop (mkF m 61 (la12 p0 p1 p2 p3 p4 p5 nn kk r0 r1 r2) [(.int (p2 &&& (8 : Int32)))])) t → Steps p.tables e below (s₁.setTop (entryFrame m #[(.int p0), (.int p1), (.int p2), (.int p3), (.int p4), (.int p5)] maxLocals)) t := by
    intro t kt
    refine pre965 t ?_
    show GO p e below T953 (mkF m 55 (la11 p0 p1 p2 p3 p4 p5 nn kk r0 r1) [(.int r2)]) _
    refine XS.istore X953.here hx rfl (hb hby at_55) rfl (l' := (la12 p0 p1 p2 p3 p4 p5 nn kk r0 r1 r2)) rfl ?_
    show GO p e below T953 (mkF m 57 (la12 p0 p1 p2 p3 p4 p5 nn kk r0 r1 r2) []) _
    refine XS.iloadN X953.here hx rfl (hb hby at_57) rfl ?_
    show GO p e below T953 (mkF m 58 (la12 p0 p1 p2 p3 p4 p5 nn kk r0 r1 r2) [(.int p2)]) _
    refine XS.bipush X953.here hx rfl (hb hby at_58) ?_
    show GO p e below T953 (mkF m 60 (la12 p0 p1 p2 p3 p4 p5 nn kk r0 r1 r2) [(.int 8), (.int p2)]) _
    refine XS.iand X953.here hx rfl (hb hby at_60) rfl ?_
    exact kt
  obtain ⟨r3, hr3, pre970⟩ : ∃ r3 : Int32, (r3 = (0 : Int32) ∨ r3 = (1 : Int32)) ∧ ∀ t, Steps p.tables e below (T953.setTop (mkF m 69 (la12 p0 p1 p2 p3 p4 p5 nn kk r0 r1 r2) [(.int r3)])) t → Steps p.tables e below (s₁.setTop (entryFrame m #[(.int p0), (.int p1), (.int p2), (.int p3), (.int p4), (.int p5)] maxLocals)) t := by
    by_cases hb971 : (p2 &&& (8 : Int32)) = (0 : Int32)
    · have pre972 : ∀ t, Steps p.tables e below (T953.setTop (mkF m 69 (la12 p0 p1 p2 p3 p4 p5 nn kk r0 r1 r2) [(.int 0)])) t → Steps p.tables e below (s₁.setTop (entryFrame m #[(.int p0), (.int p1), (.int p2), (.int p3), (.int p4), (.int p5)] maxLocals)) t := by
        intro t kt
        refine pre969 t ?_
        show GO p e below T953 (mkF m 61 (la12 p0 p1 p2 p3 p4 p5 nn kk r0 r1 r2) [(.int (p2 &&& (8 : Int32)))]) _
        refine XS.ifYes X953.here hx rfl (pc0 := 61) (pc' := 68) rfl (hb hby at_61) rfl ((if0 _ _).trans (teq (hb971 : (p2 &&& (8 : Int32)) = (0 : Int32))).1) (by decide) (by decide) ?_
        show GO p e below T953 (mkF m 68 (la12 p0 p1 p2 p3 p4 p5 nn kk r0 r1 r2) []) _
        refine XS.iconst X953.here hx rfl (hb hby at_68) ?_
        exact kt
      exact ⟨(0 : Int32), Or.inl rfl, fun t kt => pre972 t kt⟩
    · have pre973 : ∀ t, Steps p.tables e below (T953.setTop (mkF m 69 (la12 p0 p1 p2 p3 p4 p5 nn kk r0 r1 r2) [(.int 1)])) t → Steps p.tables e below (s₁.setTop (entryFrame m #[(.int p0), (.int p1), (.int p2), (.int p3), (.int p4), (.int p5)] maxLocals)) t := by
        intro t kt
        refine pre969 t ?_
        show GO p e below T953 (mkF m 61 (la12 p0 p1 p2 p3 p4 p5 nn kk r0 r1 r2) [(.int (p2 &&& (8 : Int32)))]) _
        refine XS.ifNo X953.here hx rfl (hb hby at_61) rfl ((if0 _ _).trans (feq (hb971 : ¬ ((p2 &&& (8 : Int32)) = (0 : Int32)))).1) ?_
        show GO p e below T953 (mkF m 64 (la12 p0 p1 p2 p3 p4 p5 nn kk r0 r1 r2) []) _
        refine XS.iconst X953.here hx rfl (hb hby at_64) ?_
        show GO p e below T953 (mkF m 65 (la12 p0 p1 p2 p3 p4 p5 nn kk r0 r1 r2) [(.int 1)]) _
        refine XS.goto X953.here hx rfl (pc0 := 65) (pc' := 69) rfl (hb hby at_65) (by decide) (by decide) ?_
        exact kt
      exact ⟨(1 : Int32), Or.inr rfl, fun t kt => pre973 t kt⟩
  have hb3 := own_narb hr3
  obtain ⟨T974, h974, X974, e974, E974, A974, D974, U974, st974⟩ := newO X953 hx hZ hown (wd hw 5 rfl) (wd hw 6 rfl) (wd hw 7 rfl) e953 (g := (mkF m 71 (la13 p0 p1 p2 p3 p4 p5 nn kk r0 r1 r2 r3) [])) rfl (hb hby at_71) (by decide) (by decide)
  obtain ⟨b974, g974⟩ : ∃ z, z = h0.size := ⟨_, rfl⟩
  rw [← g974] at A974 D974 U974 st974
  have sz974 : h0.size ≤ h974.size := E974.1
  have lt974 := ltA A974.lt
  have f975 : Fld Z h974 b974 kS0 "agents" "[I" .null := D974 (Or.inl (wd hw 16 rfl)) (ty := (.array .int)) (by decide)
  have f976 : Fld Z h974 b974 kS0 "legs" "[I" .null := D974 (Or.inl (wd hw 18 rfl)) (ty := (.array .int)) (by decide)
  have f977 : Fld Z h974 b974 kS0 "amounts" "[D" .null := D974 (Or.inl (wd hw 21 rfl)) (ty := (.array .double)) (by decide)
  have f978 : Fld Z h974 b974 kS0 "rears" "[Z" .null := D974 (Or.inl (wd hw 24 rfl)) (ty := (.array .boolean)) (by decide)
  have f979 : Fld Z h974 b974 kS0 "size" "I" (.int 0) := D974 (Or.inl (wd hw 31 rfl)) (ty := .int) (by decide)
  have f980 : Fld Z h974 b974 kS0 "head" "I" (.int 0) := D974 (Or.inl (wd hw 38 rfl)) (ty := .int) (by decide)
  have f981 : Fld Z h974 b974 kS0 "content" "D" (.double (0 : UInt64)) := D974 (Or.inl (wd hw 40 rfl)) (ty := .double) (by decide)
  -- pc 75: Block.<init> by rm_2
  obtain ⟨_, _, ⟨T982, L982, k982, n982⟩, -, X982, ⟨Lc982, hQ982, l982, y982, z982⟩, st982⟩ := X974.specialBack hx (y := (⟨kS0, "<init>", "()V"⟩ : MethodName)) rfl hown (mvT hZ (wd hw 8 rfl)) (mvT hZ (wd hw 9 rfl)) (mvT hZ (wd hw 10 rfl)) (by decide) (backOf (W := 1) (rm_2 l Z a0 hw [] b974 .null .null .null .null (.int 0) (.int 0) (.double (0 : UInt64)) h974 n0 (by omega) A974 f975 f976 f977 f978 f980 f979 f981 (by first | assumption | decide | omega | exact neN (by omega))) hZ (wd hw 10 rfl) (wd hw 7 rfl) (by decide) (by decide)) (g := (mkF m 75 (la13 p0 p1 p2 p3 p4 p5 nn kk r0 r1 r2 r3) [(.ref b974), (.ref b974)])) rfl (by rw [hml]; rfl) (Steps.refl _) (a := b974) (argsL := []) (rest := [(.ref b974)]) (lenOf pd_4 rfl) rfl (by show 2 * 0 + _ ≤ _; exact Nat.le_of_eq rfl) (hb hby at_75) (fun _ _ => ⟨rfl, e974, (by decide : 1 + 4 ≤ _), (by decide : 7 + 32 ≤ _)⟩)
  dsimp only [Pt.U, Pt.locs, Pt.cells, Pt.slots] at X982 l982 y982 z982 st982 hQ982
  subst l982 y982 z982
  obtain ⟨h982, e982⟩ : ∃ z, T982.heap = z := ⟨_, rfl⟩
  rw [e982] at hQ982
  obtain ⟨t0_982, t1_982, t2_982, t3_982, k0_982, k1_982, k2_982, k3_982, rfl, N982q, K982, p982_0, p982_1, p982_2, p982_3, p982_4, p982_5, p982_6, p982_7, p982_8, p982_9, p982_10, p982_11, r982_0, r982_1, r982_2, r982_3⟩ := hQ982
  have N982 := Fr.app N953 N982q
  have sz982 : h974.size ≤ h982.size := K982.1
  have lt982_0 := ltA p982_0.lt
  have lt982_2 := ltA p982_2.lt
  have lt982_4 := ltA p982_4.lt
  have lt982_6 := ltA p982_6.lt
  have lt982_8 := ltA p982_8.lt
  have hk5 := own_five hnn
  have pre983 : ∀ t, Steps p.tables e below (T982.setTop (mkF m 80 (la5 p0 p1 p2 p3 p4 p5 nn kk r0 r1 r2 r3 b974) [])) t → Steps p.tables e below (s₁.setTop (entryFrame m #[(.int p0), (.int p1), (.int p2), (.int p3), (.int p4), (.int p5)] maxLocals)) t := by
    intro t kt
    refine pre970 t ?_
    show GO p e below T953 (mkF m 69 (la12 p0 p1 p2 p3 p4 p5 nn kk r0 r1 r2) [(.int r3)]) _
    refine XS.istore X953.here hx rfl (hb hby at_69) rfl (l' := (la13 p0 p1 p2 p3 p4 p5 nn kk r0 r1 r2 r3)) rfl ?_
    show GO p e below T953 (mkF m 71 (la13 p0 p1 p2 p3 p4 p5 nn kk r0 r1 r2 r3) []) _
    refine st974 _ ?_
    show GO p e below T974 (mkF m 74 (la13 p0 p1 p2 p3 p4 p5 nn kk r0 r1 r2 r3) [(.ref b974)]) _
    refine XS.dup X974.here hx rfl (hb hby at_74) rfl rfl ?_
    show GO p e below T974 (mkF m 75 (la13 p0 p1 p2 p3 p4 p5 nn kk r0 r1 r2 r3) [(.ref b974), (.ref b974)]) _
    refine st982.trans ?_
    show GO p e below T982 (mkF m 78 (la13 p0 p1 p2 p3 p4 p5 nn kk r0 r1 r2 r3) [(.ref b974)]) _
    refine XS.astore X982.here hx rfl (hb hby at_78) rfl rfl (l' := (la5 p0 p1 p2 p3 p4 p5 nn kk r0 r1 r2 r3 b974)) rfl ?_
    exact kt
  rcases hk5 with rfl | rfl | rfl | rfl | rfl
  · have hk := own_k0 hkk
    obtain ⟨vv_984, T984, h984, L984, X984, e984, N984, st984⟩ := seg_0 p0 p1 p2 p3 p4 p5 kk r0 r1 r2 r3 b974 t0_982 t1_982 t2_982 t3_982 k0_982 k1_982 k2_982 k3_982 X982 hx hZ hw hby hml hown e982 N982 (by omega) p982_0 p982_9 p982_10 p982_11 p982_1 p982_2 p982_3 p982_4 p982_5 p982_6 p982_7 p982_8 (by first | assumption | decide | omega | exact neN (by omega)) (by first | assumption | decide | omega | exact neN (by omega)) (by first | assumption | decide | omega | exact neN (by omega)) (by first | assumption | decide | omega | exact neN (by omega)) (by first | assumption | decide | omega | exact neN (by omega)) hk (by first | assumption | decide | omega | exact neN (by omega)) (by first | assumption | decide | omega | exact neN (by omega)) (by first | assumption | decide | omega | exact neN (by omega)) (by first | assumption | decide | omega | exact neN (by omega))
    obtain ⟨fs, hr, hrun, hended, hW, hsame⟩ := X984.leave (v := some (.int 1)) (fun h => by rw [Bd.returns] at h; cases h)
    refine ⟨_, _, pre983 _ ?_, hrun, hended, _, _, rfl, ?_, ⟨_, rfl⟩, hW, hsame.mono (by decide) (by decide)⟩
    · show GO p e below T982 (mkF m 80 (la5 p0 p1 p2 p3 p4 p5 (0 : Int32) kk r0 r1 r2 r3 b974) []) _
      refine st984 _ ?_
      show GO p e below T984 (mkF m 298 (la6 p0 p1 p2 p3 p4 p5 (0 : Int32) kk r0 r1 r2 r3 b974 vv_984) [(.int 1)]) _
      exact retN X984 hx (t := .boolean) Bd.returns (by simp) (hb hby at_298) hr
    · show Qrm0 Z p0 p1 p2 p3 p4 p5 h0 n0 _ T984.heap _
      rw [e984]
      exact ⟨rfl, N984⟩
  · have hk := own_k1 hkk
    obtain ⟨vv_985, T985, h985, L985, X985, e985, N985, st985⟩ := seg_1 p0 p1 p2 p3 p4 p5 kk r0 r1 r2 r3 b974 t0_982 t1_982 t2_982 t3_982 k0_982 k1_982 k2_982 k3_982 X982 hx hZ hw hby hml hown e982 N982 (by omega) p982_0 p982_9 p982_10 p982_11 p982_1 p982_2 p982_3 p982_4 p982_5 p982_6 p982_7 p982_8 (by first | assumption | decide | omega | exact neN (by omega)) (by first | assumption | decide | omega | exact neN (by omega)) (by first | assumption | decide | omega | exact neN (by omega)) (by first | assumption | decide | omega | exact neN (by omega)) (by first | assumption | decide | omega | exact neN (by omega)) hk (by first | assumption | decide | omega | exact neN (by omega)) (by first | assumption | decide | omega | exact neN (by omega)) (by first | assumption | decide | omega | exact neN (by omega)) (by first | assumption | decide | omega | exact neN (by omega))
    obtain ⟨fs, hr, hrun, hended, hW, hsame⟩ := X985.leave (v := some (.int 1)) (fun h => by rw [Bd.returns] at h; cases h)
    refine ⟨_, _, pre983 _ ?_, hrun, hended, _, _, rfl, ?_, ⟨_, rfl⟩, hW, hsame.mono (by decide) (by decide)⟩
    · show GO p e below T982 (mkF m 80 (la5 p0 p1 p2 p3 p4 p5 (1 : Int32) kk r0 r1 r2 r3 b974) []) _
      refine st985 _ ?_
      show GO p e below T985 (mkF m 298 (la6 p0 p1 p2 p3 p4 p5 (1 : Int32) kk r0 r1 r2 r3 b974 vv_985) [(.int 1)]) _
      exact retN X985 hx (t := .boolean) Bd.returns (by simp) (hb hby at_298) hr
    · show Qrm0 Z p0 p1 p2 p3 p4 p5 h0 n0 _ T985.heap _
      rw [e985]
      exact ⟨rfl, N985⟩
  · have hk := own_k2 hkk
    obtain ⟨vv_986, T986, h986, L986, X986, e986, N986, st986⟩ := seg_2 p0 p1 p2 p3 p4 p5 kk r0 r1 r2 r3 b974 t0_982 t1_982 t2_982 t3_982 k0_982 k1_982 k2_982 k3_982 X982 hx hZ hw hby hml hown e982 N982 (by omega) p982_0 p982_9 p982_10 p982_11 p982_1 p982_2 p982_3 p982_4 p982_5 p982_6 p982_7 p982_8 (by first | assumption | decide | omega | exact neN (by omega)) (by first | assumption | decide | omega | exact neN (by omega)) (by first | assumption | decide | omega | exact neN (by omega)) (by first | assumption | decide | omega | exact neN (by omega)) (by first | assumption | decide | omega | exact neN (by omega)) hk (by first | assumption | decide | omega | exact neN (by omega)) (by first | assumption | decide | omega | exact neN (by omega)) (by first | assumption | decide | omega | exact neN (by omega)) (by first | assumption | decide | omega | exact neN (by omega))
    obtain ⟨fs, hr, hrun, hended, hW, hsame⟩ := X986.leave (v := some (.int 1)) (fun h => by rw [Bd.returns] at h; cases h)
    refine ⟨_, _, pre983 _ ?_, hrun, hended, _, _, rfl, ?_, ⟨_, rfl⟩, hW, hsame.mono (by decide) (by decide)⟩
    · show GO p e below T982 (mkF m 80 (la5 p0 p1 p2 p3 p4 p5 (2 : Int32) kk r0 r1 r2 r3 b974) []) _
      refine st986 _ ?_
      show GO p e below T986 (mkF m 298 (la6 p0 p1 p2 p3 p4 p5 (2 : Int32) kk r0 r1 r2 r3 b974 vv_986) [(.int 1)]) _
      exact retN X986 hx (t := .boolean) Bd.returns (by simp) (hb hby at_298) hr
    · show Qrm0 Z p0 p1 p2 p3 p4 p5 h0 n0 _ T986.heap _
      rw [e986]
      exact ⟨rfl, N986⟩
  · have hk := own_k3 hkk
    obtain ⟨vv_987, T987, h987, L987, X987, e987, N987, st987⟩ := seg_3 p0 p1 p2 p3 p4 p5 kk r0 r1 r2 r3 b974 t0_982 t1_982 t2_982 t3_982 k0_982 k1_982 k2_982 k3_982 X982 hx hZ hw hby hml hown e982 N982 (by omega) p982_0 p982_9 p982_10 p982_11 p982_1 p982_2 p982_3 p982_4 p982_5 p982_6 p982_7 p982_8 (by first | assumption | decide | omega | exact neN (by omega)) (by first | assumption | decide | omega | exact neN (by omega)) (by first | assumption | decide | omega | exact neN (by omega)) (by first | assumption | decide | omega | exact neN (by omega)) (by first | assumption | decide | omega | exact neN (by omega)) hk (by first | assumption | decide | omega | exact neN (by omega)) (by first | assumption | decide | omega | exact neN (by omega)) (by first | assumption | decide | omega | exact neN (by omega)) (by first | assumption | decide | omega | exact neN (by omega))
    obtain ⟨fs, hr, hrun, hended, hW, hsame⟩ := X987.leave (v := some (.int 1)) (fun h => by rw [Bd.returns] at h; cases h)
    refine ⟨_, _, pre983 _ ?_, hrun, hended, _, _, rfl, ?_, ⟨_, rfl⟩, hW, hsame.mono (by decide) (by decide)⟩
    · show GO p e below T982 (mkF m 80 (la5 p0 p1 p2 p3 p4 p5 (3 : Int32) kk r0 r1 r2 r3 b974) []) _
      refine st987 _ ?_
      show GO p e below T987 (mkF m 298 (la6 p0 p1 p2 p3 p4 p5 (3 : Int32) kk r0 r1 r2 r3 b974 vv_987) [(.int 1)]) _
      exact retN X987 hx (t := .boolean) Bd.returns (by simp) (hb hby at_298) hr
    · show Qrm0 Z p0 p1 p2 p3 p4 p5 h0 n0 _ T987.heap _
      rw [e987]
      exact ⟨rfl, N987⟩
  · have hk := own_k4 hkk
    obtain ⟨vv_988, T988, h988, L988, X988, e988, N988, st988⟩ := seg_4 p0 p1 p2 p3 p4 p5 kk r0 r1 r2 r3 b974 t0_982 t1_982 t2_982 t3_982 k0_982 k1_982 k2_982 k3_982 X982 hx hZ hw hby hml hown e982 N982 (by omega) p982_0 p982_9 p982_10 p982_11 p982_1 p982_2 p982_3 p982_4 p982_5 p982_6 p982_7 p982_8 (by first | assumption | decide | omega | exact neN (by omega)) (by first | assumption | decide | omega | exact neN (by omega)) (by first | assumption | decide | omega | exact neN (by omega)) (by first | assumption | decide | omega | exact neN (by omega)) (by first | assumption | decide | omega | exact neN (by omega)) hk (by first | assumption | decide | omega | exact neN (by omega)) (by first | assumption | decide | omega | exact neN (by omega)) (by first | assumption | decide | omega | exact neN (by omega)) (by first | assumption | decide | omega | exact neN (by omega))
    obtain ⟨fs, hr, hrun, hended, hW, hsame⟩ := X988.leave (v := some (.int 1)) (fun h => by rw [Bd.returns] at h; cases h)
    refine ⟨_, _, pre983 _ ?_, hrun, hended, _, _, rfl, ?_, ⟨_, rfl⟩, hW, hsame.mono (by decide) (by decide)⟩
    · show GO p e below T982 (mkF m 80 (la5 p0 p1 p2 p3 p4 p5 (4 : Int32) kk r0 r1 r2 r3 b974) []) _
      refine st988 _ ?_
      show GO p e below T988 (mkF m 298 (la6 p0 p1 p2 p3 p4 p5 (4 : Int32) kk r0 r1 r2 r3 b974 vv_988) [(.int 1)]) _
      exact retN X988 hx (t := .boolean) Bd.returns (by simp) (hb hby at_298) hr
    · show Qrm0 Z p0 p1 p2 p3 p4 p5 h0 n0 _ T988.heap _
      rw [e988]
      exact ⟨rfl, N988⟩
set_option maxRecDepth 65536 in
set_option maxHeartbeats 40000000 in
theorem comes_1 {Post : Tables → Env → Array Value → State → Outcome → State → Prop} (hpost : ∀ tb e args s v u, (limb_1_1.after args s (.returned v) u = true ∧ limb_1_2.after args s (.returned v) u = true ∧ True) → FrameEnd s (.returned v) u (Jvm.fieldLocs frame_1_writes args s ++ Jvm.arrayLocs frame_1_arrays args s ++ Jvm.staticLocs frame_1_statics s) 24 192 → Post tb e args s (.returned v) u) :
    ArmFor flags0 classFile x code maxLocals ret World_1 tables_1 room_1 Calls_1 rest_1 Pre_1 Post := by
  intro l hfl _ _ p e ha hc hk s m args below hf hA hF happ hP
  obtain ⟨hcalls, hrest, hpre⟩ := hP
  obtain ⟨-, -, -, hnamed, -, -, -, hat⟩ := (Spec.applies_iff hf).mp happ
  obtain ⟨hg, hn⟩ := and_e (Cond.before_iff.mp (show (Jvm.Cond.and given_1 narrow_1).before args s = true from hpre))
  obtain ⟨g0a, g0b⟩ := and_e hg
  obtain ⟨g1a, g1b⟩ := and_e g0b
  obtain ⟨g2a, g2b⟩ := and_e g1b
  obtain ⟨g3a, g3b⟩ := and_e g2b
  obtain ⟨g4a, g4b⟩ := and_e g3b
  obtain ⟨g5a, g5b⟩ := and_e g4b
  obtain ⟨w0, w1, w2, w3, w4, w5, rfl⟩ : ∃ w0 w1 w2 w3 w4 w5 : Value, args = #[w0, w1, w2, w3, w4, w5] := by
    have hs : args.size = 6 := by simpa [Cond.value, given_1] using g0a
    obtain ⟨L⟩ := args
    match L, hs with
    | [w0, w1, w2, w3, w4, w5], _ => exact ⟨w0, w1, w2, w3, w4, w5, rfl⟩
  have hw := fun d (hd : d ∈ tables_1) => atoms_spec (ws := Jvm.Cond.code x code maxLocals ret :: tables_1) hat d (List.mem_cons_of_mem _ hd)
  have hfit : Fit s := fun {y c} hc i hi => by
    obtain ⟨ha, rfl⟩ := Array.getElem?_eq_some_iff.mp hc
    have q := List.all_eq_true.mp ((Array.all_eq_true_iff_forall_mem.mp hF) _ (Array.getElem_mem ha)) i (List.mem_range.mpr hi)
    simpa [Array.getElem?_eq_getElem hi] using q
  obtain ⟨i0, ei0⟩ := is_v g1a
  obtain rfl : w0 = (.int i0) := Option.some.inj ei0
  obtain ⟨i1, ei1⟩ := is_v g2a
  obtain rfl : w1 = (.int i1) := Option.some.inj ei1
  obtain ⟨i2, ei2⟩ := is_v g3a
  obtain rfl : w2 = (.int i2) := Option.some.inj ei2
  obtain ⟨i3, ei3⟩ := is_v g4a
  obtain rfl : w3 = (.int i3) := Option.some.inj ei3
  obtain ⟨i4, ei4⟩ := is_v g5a
  obtain rfl : w4 = (.int i4) := Option.some.inj ei4
  obtain ⟨i5, ei5⟩ := is_v g5b
  obtain rfl : w5 = (.int i5) := Option.some.inj ei5
  obtain ⟨n, o, h1, h2, h3, _, L, rfl, ⟨rfl, N⟩, hq⟩ := rm0 l s _ hw tables_1 i0 i1 i2 i3 i4 i5 s.heap s.heap.size (Nat.le_refl _) p e ha hc hk s m _ below hf ((Spec.applies_iff_loose hf).mp happ).1 ⟨rfl, State.Warmed39.refl s, rfl⟩ trivial
  refine ⟨n, _, h1, h2, h3, hpost _ _ _ _ _ _ ⟨Cond.after_iff.mpr rfl, Cond.after_iff.mpr (eq_i res_at (Term.int_eval (1)) rfl), trivial⟩ ⟨hq.1, hq.2.1, (hq.2.2.sift fun y hy => Or.inr (N y hy)).mono (by decide) (by decide)⟩⟩
theorem main_1_1 : Claimed_1_1 := comes_1 fun _ _ _ _ _ _ h hF => ⟨h.1, hF⟩
theorem main_1_2 : Claimed_1_2 := comes_1 fun _ _ _ _ _ _ h hF => ⟨h.2.1, hF⟩
end Jvm.Pilot.@@N@@
namespace Jvm.Pilot.@@N@@
open Jvm Jvm.ClassFile Sem Op Lib Jvm.Free Jvm.Stand Jvm.Pilot.@@N@@.Jvm.D
/-! MADE BY PROGRAM (witnessworld.py) out of the Statement's table words and the real class files: 14 classes; the members and pool entries that the words name. The judged class is class 1, her method 1. -/
namespace start1
open Jvm.ClassFile
def u (s : String) : CpInfo := .utf8 (stringToUtf16 s)
/-- a pool by its gaps: so many unusable entries, then the entry; so many at the end -/
def gap : Nat → List CpInfo → List CpInfo
  | 0, r => r
  | n + 1, r => .unusable :: gap n r
def poolList (es : List (Nat × CpInfo)) (last : Nat) : List CpInfo := es.foldr (fun e r => gap e.1 (e.2 :: r)) (gap last [])
def pool (es : List (Nat × CpInfo)) (last : Nat) : Array CpInfo := ⟨poolList es last⟩
def fileOf (pool : Array CpInfo) (this : Nat) (attrs : Array Attribute := #[]) (ms : Array MethodInfo := #[]) (fl : Nat := 33) (sup : Nat := 0) (ifs : Array Nat := #[]) (fds : Array FieldInfo := #[]) : ClassFile where
  minorVersion := 0
  majorVersion := 65
  constantPool := pool
  accessFlags := fl
  thisClass := this
  superClass := sup
  interfaces := ifs
  fields := fds
  methods := ms
  attributes := attrs
def plain (name : String) (sup : Option ClassId) : Class where
  name := name
  kind := .ordinary
  loader := none
  accessFlags := 33
  super := sup
  interfaces := #[]
  cf := none
  fields := #[]
  methods := #[]
  instanceTypes := #[]
  staticTypes := #[]
  resolved := #[]
  callSites := []
  init := .initialized
  statics := none
  mirror := none

def pool0 : Array CpInfo := pool [(5, u "<init>"), (0, u "()V"), (1, .class_ 10), (1, u "java/lang/Object")] 113

def k0c0 : Code := { maxStack := 0, maxLocals := 1, code := object_method_1_code, exceptionTable := #[], attributes := #[] }
def k0m0 : Method := { name := "<init>", desc := "()V", sig := { parameters := [], returnType := none }, accessFlags := 1, code := some k0c0 }
/-- java/lang/Object -/
def k0 : Class := { plain "java/lang/Object" none with
  accessFlags := 33
  interfaces := #[]
  cf := some (fileOf pool0 8 #[] #[{ accessFlags := 1, nameIndex := 5, descriptorIndex := 6, attributes := #[] }] 33 0 #[] #[])
  fields := #[]
  methods := #[k0m0]
  instanceTypes := #[]
  staticTypes := #[]
  resolved := Array.replicate 124 none
  statics := none }

def pool1 : Array CpInfo := pool [(2, .class_ 4), (0, .nameAndType 5 6), (0, u "java/lang/Object"), (0, u "<init>"), (0, u "()V"), (0, .integer 2147483647), (0, .methodref 9 10), (0, .class_ 11), (0, .nameAndType 12 13), (0, u "java/lang/Math"), (0, u "min"), (0, u "(II)I"), (0, .class_ 15), (0, u "com/example/occupancy/occupancy/loading/Block"), (0, .methodref 14 3), (0, .methodref 14 18), (0, .nameAndType 19 20), (0, u "add"), (0, u "(IIDZ)V"), (0, .methodref 14 22), (0, .nameAndType 23 24), (0, u "takeFromHead"), (0, u "(D)V"), (0, .double 4602678819172646912), (1, .methodref 14 28), (0, .nameAndType 29 30), (0, u "holdsRear"), (0, u "()Z"), (0, .class_ 32), (0, u "com/example/occupancy/occupancy/loading/BlockHoldsRearPinLaw"), (2, u "law"), (0, u "(IIIIII)Z")] 3

def k1m0 : Method := { name := "<init>", desc := "()V", sig := { parameters := [], returnType := none }, accessFlags := 1, code := none }
def k1c1 : Code := { maxStack := 6, maxLocals := 14, code := code, exceptionTable := #[], attributes := #[] }
def k1m1 : Method := { name := "law", desc := "(IIIIII)Z", sig := { parameters := [.int, .int, .int, .int, .int, .int], returnType := some .boolean }, accessFlags := 9, code := some k1c1 }
/-- com/example/occupancy/occupancy/loading/BlockHoldsRearPinLaw -/
def k1 : Class := { plain "com/example/occupancy/occupancy/loading/BlockHoldsRearPinLaw" (some 0) with
  accessFlags := 49
  interfaces := #[]
  cf := some (fileOf pool1 31 #[] #[{ accessFlags := 1, nameIndex := 5, descriptorIndex := 6, attributes := #[] }, { accessFlags := 9, nameIndex := 35, descriptorIndex := 36, attributes := #[] }] 49 2 #[] #[])
  fields := #[]
  methods := #[k1m0, k1m1]
  instanceTypes := #[]
  staticTypes := #[]
  resolved := Array.replicate 40 none
  statics := none }

def pool2 : Array CpInfo := pool [(1, .class_ 2), (0, u "java/lang/Math"), (1, .class_ 6), (1, u "java/lang/Object"), (0, u "<init>"), (0, u "()V"), (89, .class_ 100), (1, u "java/lang/Math$RandomNumberGeneratorHolder"), (71, u "negativeZeroFloatBits"), (0, u "J"), (2, u "negativeZeroDoubleBits"), (24, u "min"), (43, u "$assertionsDisabled"), (0, u "Z"), (88, u "(II)I"), (2, u "twoToTheDoubleScaleDown"), (0, u "D"), (4, u "twoToTheDoubleScaleUp"), (9, u "E"), (3, u "PI"), (2, u "TAU"), (2, u "DEGREES_TO_RADIANS"), (0, u "RADIANS_TO_DEGREES")] 94

def k2m0 : Method := { name := "<init>", desc := "()V", sig := { parameters := [], returnType := none }, accessFlags := 2, code := none }
def k2c1 : Code := { maxStack := 2, maxLocals := 2, code := jdk_29_method_69_code, exceptionTable := #[], attributes := #[] }
def k2m1 : Method := { name := "min", desc := "(II)I", sig := { parameters := [.int, .int], returnType := some .int }, accessFlags := 9, code := some k2c1 }
/-- java/lang/Math -/
def k2 : Class := { plain "java/lang/Math" (some 0) with
  accessFlags := 49
  interfaces := #[]
  cf := some (fileOf pool2 1 #[.nestMembers #[98]] #[{ accessFlags := 2, nameIndex := 7, descriptorIndex := 8, attributes := #[] }, { accessFlags := 9, nameIndex := 201, descriptorIndex := 335, attributes := #[] }] 49 4 #[] #[{ accessFlags := 25, nameIndex := 354, descriptorIndex := 339, attributes := #[] }, { accessFlags := 25, nameIndex := 358, descriptorIndex := 339, attributes := #[] }, { accessFlags := 25, nameIndex := 361, descriptorIndex := 339, attributes := #[] }, { accessFlags := 26, nameIndex := 364, descriptorIndex := 339, attributes := #[] }, { accessFlags := 26, nameIndex := 365, descriptorIndex := 339, attributes := #[] }, { accessFlags := 26, nameIndex := 172, descriptorIndex := 173, attributes := #[] }, { accessFlags := 26, nameIndex := 176, descriptorIndex := 173, attributes := #[] }, { accessFlags := 8, nameIndex := 344, descriptorIndex := 339, attributes := #[] }, { accessFlags := 8, nameIndex := 338, descriptorIndex := 339, attributes := #[] }, { accessFlags := 4120, nameIndex := 245, descriptorIndex := 246, attributes := #[] }])
  fields := #[{ name := "E", type := .double, accessFlags := 25, slot := 0, constantValue := 0 }, { name := "PI", type := .double, accessFlags := 25, slot := 1, constantValue := 0 }, { name := "TAU", type := .double, accessFlags := 25, slot := 2, constantValue := 0 }, { name := "DEGREES_TO_RADIANS", type := .double, accessFlags := 26, slot := 3, constantValue := 0 }, { name := "RADIANS_TO_DEGREES", type := .double, accessFlags := 26, slot := 4, constantValue := 0 }, { name := "negativeZeroFloatBits", type := .long, accessFlags := 26, slot := 5, constantValue := 0 }, { name := "negativeZeroDoubleBits", type := .long, accessFlags := 26, slot := 6, constantValue := 0 }, { name := "twoToTheDoubleScaleUp", type := .double, accessFlags := 8, slot := 7, constantValue := 0 }, { name := "twoToTheDoubleScaleDown", type := .double, accessFlags := 8, slot := 8, constantValue := 0 }, { name := "$assertionsDisabled", type := .boolean, accessFlags := 4120, slot := 9, constantValue := 0 }]
  methods := #[k2m0, k2m1]
  instanceTypes := #[]
  staticTypes := #[.double, .double, .double, .double, .double, .long, .long, .double, .double, .boolean]
  resolved := Array.replicate 460 none
  statics := none }

def pool3 : Array CpInfo := pool [(1, .methodref 2 3), (0, .class_ 4), (0, .nameAndType 5 6), (0, u "java/lang/Object"), (0, u "<init>"), (0, u "()V"), (0, .class_ 8), (0, u "com/example/occupancy/occupancy/loading/Block"), (0, .fieldref 7 10), (0, .nameAndType 11 12), (0, u "agents"), (0, u "[I"), (0, .fieldref 7 14), (0, .nameAndType 15 12), (0, u "legs"), (0, .fieldref 7 17), (0, .nameAndType 18 19), (0, u "amounts"), (0, u "[D"), (0, .fieldref 7 21), (0, .nameAndType 22 23), (0, u "rears"), (0, u "[Z"), (0, .fieldref 7 25), (0, .nameAndType 26 27), (0, u "content"), (0, u "D"), (0, .fieldref 7 29), (0, .nameAndType 30 31), (0, u "size"), (0, u "I"), (0, .fieldref 7 33), (0, .nameAndType 34 31), (0, u "head"), (7, u "INITIAL_CAPACITY"), (6, u "()Z"), (6, u "holdsRear"), (0, u "add"), (0, u "(IIDZ)V"), (0, u "takeFromHead"), (0, u "(D)V")] 7

def k3c0 : Code := { maxStack := 2, maxLocals := 1, code := prog_14_method_1_code, exceptionTable := #[], attributes := #[] }
def k3m0 : Method := { name := "<init>", desc := "()V", sig := { parameters := [], returnType := none }, accessFlags := 0, code := some k3c0 }
def k3c1 : Code := { maxStack := 4, maxLocals := 2, code := prog_14_method_10_code, exceptionTable := #[], attributes := #[] }
def k3m1 : Method := { name := "holdsRear", desc := "()Z", sig := { parameters := [], returnType := some .boolean }, accessFlags := 0, code := some k3c1 }
def k3c2 : Code := { maxStack := 6, maxLocals := 9, code := prog_14_method_11_code, exceptionTable := #[], attributes := #[] }
def k3m2 : Method := { name := "add", desc := "(IIDZ)V", sig := { parameters := [.int, .int, .double, .boolean], returnType := none }, accessFlags := 0, code := some k3c2 }
def k3c3 : Code := { maxStack := 6, maxLocals := 3, code := prog_14_method_12_code, exceptionTable := #[], attributes := #[] }
def k3m3 : Method := { name := "takeFromHead", desc := "(D)V", sig := { parameters := [.double], returnType := none }, accessFlags := 0, code := some k3c3 }
/-- com/example/occupancy/occupancy/loading/Block -/
def k3 : Class := { plain "com/example/occupancy/occupancy/loading/Block" (some 0) with
  accessFlags := 32
  interfaces := #[]
  cf := some (fileOf pool3 7 #[] #[{ accessFlags := 0, nameIndex := 5, descriptorIndex := 6, attributes := #[] }, { accessFlags := 0, nameIndex := 56, descriptorIndex := 49, attributes := #[] }, { accessFlags := 0, nameIndex := 57, descriptorIndex := 58, attributes := #[] }, { accessFlags := 0, nameIndex := 59, descriptorIndex := 60, attributes := #[] }] 32 2 #[] #[{ accessFlags := 26, nameIndex := 42, descriptorIndex := 31, attributes := #[] }, { accessFlags := 2, nameIndex := 11, descriptorIndex := 12, attributes := #[] }, { accessFlags := 2, nameIndex := 15, descriptorIndex := 12, attributes := #[] }, { accessFlags := 2, nameIndex := 18, descriptorIndex := 19, attributes := #[] }, { accessFlags := 2, nameIndex := 22, descriptorIndex := 23, attributes := #[] }, { accessFlags := 2, nameIndex := 34, descriptorIndex := 31, attributes := #[] }, { accessFlags := 2, nameIndex := 30, descriptorIndex := 31, attributes := #[] }, { accessFlags := 2, nameIndex := 26, descriptorIndex := 27, attributes := #[] }])
  fields := #[{ name := "INITIAL_CAPACITY", type := .int, accessFlags := 26, slot := 0, constantValue := 0 }, { name := "agents", type := (.array .int), accessFlags := 2, slot := 0, constantValue := 0 }, { name := "legs", type := (.array .int), accessFlags := 2, slot := 1, constantValue := 0 }, { name := "amounts", type := (.array .double), accessFlags := 2, slot := 2, constantValue := 0 }, { name := "rears", type := (.array .boolean), accessFlags := 2, slot := 3, constantValue := 0 }, { name := "head", type := .int, accessFlags := 2, slot := 4, constantValue := 0 }, { name := "size", type := .int, accessFlags := 2, slot := 5, constantValue := 0 }, { name := "content", type := .double, accessFlags := 2, slot := 6, constantValue := 0 }]
  methods := #[k3m0, k3m1, k3m2, k3m3]
  instanceTypes := #[(.array .int), (.array .int), (.array .double), (.array .boolean), .int, .int, .double]
  staticTypes := #[.int]
  resolved := Array.replicate 68 none
  statics := none }

def pool4 : Array CpInfo := pool [(1, u "java/lang/Cloneable"), (0, .class_ 1), (0, u "java/lang/Object"), (0, .class_ 3)] 3

/-- java/lang/Cloneable -/
def k4 : Class := { plain "java/lang/Cloneable" (some 0) with
  accessFlags := 1537
  interfaces := #[]
  cf := some (fileOf pool4 2 #[] #[] 1537 4 #[] #[])
  fields := #[]
  methods := #[]
  instanceTypes := #[]
  staticTypes := #[]
  resolved := Array.replicate 8 none
  statics := none }

def pool5 : Array CpInfo := pool [(1, u "java/io/Serializable"), (0, .class_ 1), (0, u "java/lang/Object"), (0, .class_ 3)] 3

/-- java/io/Serializable -/
def k5 : Class := { plain "java/io/Serializable" (some 0) with
  accessFlags := 1537
  interfaces := #[]
  cf := some (fileOf pool5 2 #[] #[] 1537 4 #[] #[])
  fields := #[]
  methods := #[]
  instanceTypes := #[]
  staticTypes := #[]
  resolved := Array.replicate 8 none
  statics := none }

/-- the primitive boolean -/
def k6 : Class := { plain "boolean" none with kind := .primitive 'Z', accessFlags := 0x411 }
/-- [Z -/
def k7 : Class := { plain "[Z" (some 0) with kind := .array 6 .boolean, interfaces := #[4, 5], accessFlags := 1041 }

/-- the primitive byte -/
def k8 : Class := { plain "byte" none with kind := .primitive 'B', accessFlags := 0x411 }
/-- [B -/
def k9 : Class := { plain "[B" (some 0) with kind := .array 8 .byte, interfaces := #[4, 5], accessFlags := 1041 }

/-- the primitive double -/
def k10 : Class := { plain "double" none with kind := .primitive 'D', accessFlags := 0x411 }
/-- [D -/
def k11 : Class := { plain "[D" (some 0) with kind := .array 10 .double, interfaces := #[4, 5], accessFlags := 1041 }

/-- the primitive int -/
def k12 : Class := { plain "int" none with kind := .primitive 'I', accessFlags := 0x411 }
/-- [I -/
def k13 : Class := { plain "[I" (some 0) with kind := .array 12 .int, interfaces := #[4, 5], accessFlags := 1041 }

def heap : Heap := #[]
def classes : Array Class := #[k0, k1, k2, k3, k4, k5, k6, k7, k8, k9, k10, k11, k12, k13]
def interned : List (Array UInt16 × Addr) := []
def slotsUsed : Nat := 0
def theMethod : MethodId := ⟨1, 1⟩
def args0 : Array Value := #[.int 5, .int 7, .int 3, .int 2, .int 1, .int 4]
def aboutOver (below : List Frame) : State where
  vm := { classes := classes, interned := interned.toArray }
  heap := heap
  slotsUsed := slotsUsed
  threads := #[{ frames := .invoking theMethod args0 :: below }]
def below0 : List Frame := [.native { method := ⟨0, 0⟩, args := #[] }]
def about1 : State := aboutOver below0
def p0 : Program := .bare "" "" ""
def e0 : Env := launch0.env 0 0 0
theorem w_frames : about1.frames = Frame.invoking theMethod args0 :: below0 := rfl
set_option maxRecDepth 65536 in
theorem w_args : argsFit about1.vm theMethod args0 = true := by decide +kernel
set_option maxRecDepth 65536 in
theorem w_heap : heapFits about1 = true := by decide +kernel
set_option maxRecDepth 65536 in
theorem w_runnable : about1.curStatus? = some .runnable := by decide +kernel
set_option maxRecDepth 65536 in
theorem w_alone : about1.alone = true := by decide +kernel
set_option maxRecDepth 65536 in
theorem w_named : about1.methodNamed? x = some theMethod := by decide +kernel
set_option maxRecDepth 65536 in
theorem w_hears : about1.hears theMethod below0 = true := by decide +kernel
set_option maxRecDepth 65536 in
theorem w_ripe : about1.ripe theMethod args0 below0 = true := by decide +kernel
theorem w_running : about1.status = .running := rfl
set_option maxRecDepth 65536 in
theorem w_room : about1.hasRoom e0.platform room_1 = true :=
  launch0.hasRoom_least _ room_1 (by decide +kernel) (by decide +kernel) (by decide +kernel) (by decide +kernel) (by decide +kernel) (by decide +kernel)
theorem allAtoms_all (ts : List Jvm.Cond) (a : Array Jvm.Value) (st : Jvm.State) : (allAtoms ts).before a st = ts.all (fun c => c.before a st) := by
  induction ts with
  | nil => rfl
  | cons c t ih =>
    show (Jvm.Cond.and c (allAtoms t)).before a st = _
    rw [Jvm.Cond.before_and, ih, List.all_cons]
def words1 : List Jvm.Cond := Jvm.Cond.code x code maxLocals ret :: tables_1
/-- a 'code' word, met by the world's own term for the bytes: nothing is compared byte by byte -/
theorem code_word {y : MethodName} {bytes : ByteArray} {mx : Nat} {rt : Option FieldType} {a : Array Value} {s : State} {m : MethodId} {meth : Method} {c : Code} (h1 : s.methodNamed? y = some m) (h2 : s.vm.method? m = some meth) (h3 : meth.code = some c) (h4 : c.code = bytes)
    (h5 : (c.maxLocals == mx && c.exceptionTable.isEmpty && decide (c.maxStack ≤ mostOperands) && decide (meth.sig.returnType = rt) && !meth.locks && decide (parseMethodDescriptor y.desc = some meth.sig)) = true) : (Jvm.Cond.code y bytes mx rt).before a s = true := by
  simp only [Bool.and_eq_true, beq_iff_eq, Bool.not_eq_true', decide_eq_true_eq] at h5
  obtain ⟨⟨⟨⟨⟨g1, g2⟩, g3⟩, g4⟩, g5⟩, g6⟩ := h5
  simp [Cond.before, Cond.holds, Cond.value, h1, h2, h3, h4, g1, g2, g3, g4, g5, g6]
def isCode : Jvm.Cond → Bool
  | .code _ _ _ _ => true
  | _ => false
theorem all_split {L : List Jvm.Cond} {P : Jvm.Cond → Bool} (h1 : L.all (fun c => isCode c || P c) = true) (h2 : ∀ c ∈ L.filter isCode, P c = true) : L.all P = true := by
  refine List.all_eq_true.mpr fun c hc => ?_
  have h := List.all_eq_true.mp h1 c hc
  rcases Bool.eq_false_or_eq_true (isCode c) with hi | hi
  · exact h2 c (List.mem_filter.mpr ⟨hc, hi⟩)
  · simpa [hi] using h
set_option maxRecDepth 65536 in
theorem w_c0 : (Jvm.Cond.code x code maxLocals ret).before args0 about1 = true := code_word (m := ⟨1, 1⟩) (meth := k1m1) (c := k1c1) (by decide +kernel) rfl rfl rfl (by decide +kernel)
set_option maxRecDepth 65536 in
theorem w_c1 : (Jvm.Cond.code ({ cls := "java/lang/Math", name := "min", desc := "(II)I" } : Jvm.MethodName) jdk_29_method_69_code (2 : Nat) (Option.some Jvm.ClassFile.FieldType.int)).before args0 about1 = true := code_word (m := ⟨2, 1⟩) (meth := k2m1) (c := k2c1) (by decide +kernel) rfl rfl rfl (by decide +kernel)
set_option maxRecDepth 65536 in
theorem w_c2 : (Jvm.Cond.code ({ cls := "com/example/occupancy/occupancy/loading/Block", name := "<init>", desc := "()V" } : Jvm.MethodName) prog_14_method_1_code (1 : Nat) (Option.none : Option Jvm.ClassFile.FieldType)).before args0 about1 = true := code_word (m := ⟨3, 0⟩) (meth := k3m0) (c := k3c0) (by decide +kernel) rfl rfl rfl (by decide +kernel)
set_option maxRecDepth 65536 in
theorem w_c3 : (Jvm.Cond.code ({ cls := "java/lang/Object", name := "<init>", desc := "()V" } : Jvm.MethodName) object_method_1_code (1 : Nat) (Option.none : Option Jvm.ClassFile.FieldType)).before args0 about1 = true := code_word (m := ⟨0, 0⟩) (meth := k0m0) (c := k0c0) (by decide +kernel) rfl rfl rfl (by decide +kernel)
set_option maxRecDepth 65536 in
theorem w_c4 : (Jvm.Cond.code ({ cls := "com/example/occupancy/occupancy/loading/Block", name := "holdsRear", desc := "()Z" } : Jvm.MethodName) prog_14_method_10_code (2 : Nat) (Option.some Jvm.ClassFile.FieldType.boolean)).before args0 about1 = true := code_word (m := ⟨3, 1⟩) (meth := k3m1) (c := k3c1) (by decide +kernel) rfl rfl rfl (by decide +kernel)
set_option maxRecDepth 65536 in
theorem w_c5 : (Jvm.Cond.code ({ cls := "com/example/occupancy/occupancy/loading/Block", name := "add", desc := "(IIDZ)V" } : Jvm.MethodName) prog_14_method_11_code (9 : Nat) (Option.none : Option Jvm.ClassFile.FieldType)).before args0 about1 = true := code_word (m := ⟨3, 2⟩) (meth := k3m2) (c := k3c2) (by decide +kernel) rfl rfl rfl (by decide +kernel)
set_option maxRecDepth 65536 in
theorem w_c6 : (Jvm.Cond.code ({ cls := "com/example/occupancy/occupancy/loading/Block", name := "takeFromHead", desc := "(D)V" } : Jvm.MethodName) prog_14_method_12_code (3 : Nat) (Option.none : Option Jvm.ClassFile.FieldType)).before args0 about1 = true := code_word (m := ⟨3, 3⟩) (meth := k3m3) (c := k3c3) (by decide +kernel) rfl rfl rfl (by decide +kernel)
def codes1 : List Jvm.Cond := [Jvm.Cond.code x code maxLocals ret, Jvm.Cond.code ({ cls := "java/lang/Math", name := "min", desc := "(II)I" } : Jvm.MethodName) jdk_29_method_69_code (2 : Nat) (Option.some Jvm.ClassFile.FieldType.int), Jvm.Cond.code ({ cls := "com/example/occupancy/occupancy/loading/Block", name := "<init>", desc := "()V" } : Jvm.MethodName) prog_14_method_1_code (1 : Nat) (Option.none : Option Jvm.ClassFile.FieldType), Jvm.Cond.code ({ cls := "java/lang/Object", name := "<init>", desc := "()V" } : Jvm.MethodName) object_method_1_code (1 : Nat) (Option.none : Option Jvm.ClassFile.FieldType), Jvm.Cond.code ({ cls := "com/example/occupancy/occupancy/loading/Block", name := "holdsRear", desc := "()Z" } : Jvm.MethodName) prog_14_method_10_code (2 : Nat) (Option.some Jvm.ClassFile.FieldType.boolean), Jvm.Cond.code ({ cls := "com/example/occupancy/occupancy/loading/Block", name := "add", desc := "(IIDZ)V" } : Jvm.MethodName) prog_14_method_11_code (9 : Nat) (Option.none : Option Jvm.ClassFile.FieldType), Jvm.Cond.code ({ cls := "com/example/occupancy/occupancy/loading/Block", name := "takeFromHead", desc := "(D)V" } : Jvm.MethodName) prog_14_method_12_code (3 : Nat) (Option.none : Option Jvm.ClassFile.FieldType)]
set_option maxRecDepth 65536 in
theorem codes_eq : words1.filter isCode = codes1 := rfl
theorem w_codes : ∀ c ∈ words1.filter isCode, c.before args0 about1 = true := by
  rw [codes_eq]
  intro c hc
  simp only [codes1, List.mem_cons, List.not_mem_nil, or_false] at hc
  rcases hc with rfl | rfl | rfl | rfl | rfl | rfl | rfl
  · exact w_c0
  · exact w_c1
  · exact w_c2
  · exact w_c3
  · exact w_c4
  · exact w_c5
  · exact w_c6
set_option maxRecDepth 65536 in
theorem w_t1 : (words1.take 24).all (fun c => isCode c || c.before args0 about1) = true := by decide +kernel
set_option maxRecDepth 65536 in
theorem w_t2 : (words1.drop 24).all (fun c => isCode c || c.before args0 about1) = true := by decide +kernel
theorem w_tables : (allAtoms (Jvm.Cond.code x code maxLocals ret :: tables_1)).before args0 about1 = true := by
  rw [allAtoms_all]
  show words1.all (fun c => c.before args0 about1) = true
  refine all_split ?_ w_codes
  rw [← List.take_append_drop 24 words1, List.all_append, w_t1, w_t2]
  rfl
set_option maxRecDepth 65536 in
theorem w_case : (Jvm.Cond.and given_1 narrow_1).before args0 about1 = true := by decide +kernel
theorem w_applies : (headSpec (Jvm.Cond.code x code maxLocals ret :: tables_1) room_1).applies x e0.platform about1 = true :=
  (Spec.applies_iff w_frames).mpr ⟨w_running, w_runnable, w_alone, w_named, w_hears, w_ripe, w_room, w_tables⟩
theorem atStart : AtStart classFile x code maxLocals ret World_1 tables_1 room_1 Calls_1 rest_1 Pre_1 launch0 p0 e0 about1 theMethod args0 below0 :=
  ⟨lists_1, trivial, launch0.admits_env _ _ _, launch0.least_env, fairChoices_fair.cas, fairChoices_fair.clock, w_frames, w_args, w_heap, w_applies, trivial, trivial, w_case⟩
end start1
theorem witness_1 : WitnessClaimed_1 := ⟨start1.p0, start1.e0, start1.about1, start1.theMethod, start1.args0, start1.below0, start1.atStart⟩
end Jvm.Pilot.@@N@@
