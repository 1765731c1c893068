import JvmDerived
import JvmDerived.Pilot.@@N@@Statement
import JvmDerived.Pilot.@@N@@Code
set_option linter.unusedVariables false
set_option linter.unusedSimpArgs false
namespace Jvm.RoadKit
open Sem ClassFile Op Lib Jvm.Stand Jvm.Free Jvm.LawKit
section New
variable {p : Program} {l : Launch} {e : Env} {R : Room} {s : State} {m : MethodId} {args : Array Value} {below : List Frame} {meth : Method} {c : Code} {T : State} {locs : List Loc} {cells slots : Nat}
theorem retI (X : Stand p l e R s m args below meth c T locs cells slots) (hx : p.tables.exec = Jvm.exec) {pc : Nat} {Ls : Array Slot} {z : Int32} {rest : List Value} (hret : meth.sig.returnType = some .int) (hd : decode c.code pc = .ok (.ireturn, 1)) {fs : List Frame}
    (hl : ∀ (f : JFrame) (acts : List Action), f.method = m → f.locked = none → f.entered = [] → (doReturn e (T.setTop f) acts (some (.int z))).1 = T.setFrames fs) : Steps p.tables e below (T.setTop (mkF m pc Ls (.int z :: rest))) (T.setFrames fs) := by
  have hm' : T.vm.method? m = some meth := X.method'
  have hn : narrow .int (.int z) = .int z := rfl
  show Steps p.tables e below (T.setTop { method := m, pc := pc, locals := Ls, stack := _ :: rest, locked := none }) _
  jvm_step X.here [X.here.top, hx, hd, hm', hret, hn]
  first | (intro acts; rw [hl _ acts rfl rfl rfl]) | rw [hl _ _ rfl rfl rfl]
  exact Steps.refl _
end New
end Jvm.RoadKit
namespace Jvm.Pilot.@@N@@
open Jvm Jvm.ClassFile Sem Op Lib Jvm.Free Jvm.Stand Jvm.LawKit Jvm.RoadKit Bundle Jvm.Pilot.@@N@@.Jvm.D
section OwnFp
open Jvm.FP.Core
/-- a number K / 2^16 that the format holds -/
theorem own_dyad {K : Nat} (hK : K < 2 ^ 53) : ∃ V : Datum, Jvm.FP.Core.fits b64 V ∧ V ≠ .nan ∧ sgn V = false ∧ zmag b64 V = K * 2 ^ 1058 := by
  obtain ⟨c', q', h1, h2⟩ := round_exact good_b64 false (c := K) (q := -16) hK (by decide) (by decide)
  refine ⟨_, round_fits good_b64 _, by rw [h1]; exact Datum.noConfusion, by rw [h1]; rfl, ?_⟩
  rw [h1]
  show inUnits c' q' b64.qmin = _
  rw [h2]
  unfold inUnits
  rw [show ((-16 : Int) - b64.qmin).toNat = 1058 by decide]
theorem own_zv {V : Datum} (h : sgn V = false) : zval b64 V = (zmag b64 V : Int) := by unfold zval; rw [h]; rfl
theorem own_one : one64 = 65536 * 2 ^ 1058 := by unfold one64; rw [show (1074 : Nat) = 16 + 1058 from rfl, Nat.pow_add]
/-- a whole number as a double: its shape -/
theorem own_shape {a : Int64} (h0 : 0 ≤ a.toInt) (h1 : a.toInt < 9007199254740992) : ∃ c q, val64 (l2d a) = .fin false c q ∧ b64.qmin ≤ q ∧ q ≤ b64.qmax ∧ c * 2 ^ (q - b64.qmin).toNat = a.toInt.toNat * one64 := by
  obtain ⟨c, q, hs⟩ := l2d_shape a
  rw [show decide (a.toInt < 0) = false from decide_eq_false (by omega)] at hs
  have hf := val64_fits (l2d a)
  have hz : zval b64 (val64 (l2d a)) = a.toInt * (one64 : Int) := DInt_zval (l2d_whole ⟨by omega, h1⟩)
  rw [hs] at hf hz
  refine ⟨c, q, hs, hf.2.1, hf.2.2.1, ?_⟩
  have hz' : ((c * 2 ^ (q - b64.qmin).toNat : Nat) : Int) = a.toInt * (one64 : Int) := hz
  have : ((a.toInt.toNat * one64 : Nat) : Int) = a.toInt * (one64 : Int) := by rw [Int.natCast_mul, Int.toNat_of_nonneg h0]
  exact Int.ofNat.inj (hz'.trans this.symm)
/-- the quotient of two whole numbers, against K / 2^16 -/
theorem own_quot {p c : Int64} (hp0 : 0 ≤ p.toInt) (hp1 : p.toInt < 9007199254740992) (hc0 : 0 < c.toInt) (hc1 : c.toInt < 9007199254740992) :
    ∃ D : Datum, val64 (ddiv (l2d p) (l2d c)) = D ∧ sgn D = false ∧ D ≠ .nan ∧ Jvm.FP.Core.fits b64 D ∧
      (∀ K : Nat, K < 2 ^ 53 → p.toInt.toNat * 65536 ≤ K * c.toInt.toNat → zmag b64 D ≤ K * 2 ^ 1058) ∧
      (∀ K : Nat, K < 2 ^ 53 → K * c.toInt.toNat ≤ p.toInt.toNat * 65536 → K * 2 ^ 1058 ≤ zmag b64 D) := by
  obtain ⟨cp, qp, sp, lp, up, ep⟩ := own_shape hp0 hp1
  obtain ⟨cc, qc, sc, lc, uc, ec⟩ := own_shape (by omega : 0 ≤ c.toInt) hc1
  have hcc : cc ≠ 0 := by
    rintro rfl
    rw [Nat.zero_mul] at ec
    have := Nat.mul_pos (show 0 < c.toInt.toNat by omega) one64_pos
    omega
  have hq : val64 (ddiv (l2d p) (l2d c)) = roundRatio b64 false cp cc (qp - qc) := by
    rw [val64_ddiv, sp, sc]
    show (if cc = 0 then _ else roundRatio b64 (false != false) cp cc (qp - qc)) = _
    rw [if_neg hcc]; rfl
  have hqm : b64.qmin = -1074 := qmin_b64
  have hqx : b64.qmax = 971 := by decide
  have key : ∀ K : Nat, (inUnits cp (qp - qc) (-4000) * 2 ^ (qc - b64.qmin).toNat = p.toInt.toNat * 65536 * (2 ^ 1058 * 2 ^ 4000)) ∧
      (K * 2 ^ 1058 * 2 ^ (b64.qmin - (-4000)).toNat * cc * 2 ^ (qc - b64.qmin).toNat = K * c.toInt.toNat * (2 ^ 1058 * 2 ^ 4000)) := by
    intro K
    constructor
    · unfold inUnits
      have e1 : (qp - qc - (-4000)).toNat + (qc - b64.qmin).toNat = (qp - b64.qmin).toNat + 4000 := by omega
      rw [Nat.mul_assoc, ← Nat.pow_add, e1, Nat.pow_add, ← Nat.mul_assoc, ep, own_one]
      generalize 2 ^ 1058 = u
      generalize 2 ^ 4000 = v
      ac_rfl
    · have e2 : (b64.qmin - (-4000)).toNat = 2926 := by rw [hqm]; decide
      have e3 : K * 2 ^ 1058 * 2 ^ 2926 * cc * 2 ^ (qc - b64.qmin).toNat = K * (2 ^ 1058 * 2 ^ 2926) * (cc * 2 ^ (qc - b64.qmin).toNat) := by
        generalize 2 ^ 1058 = u
        generalize 2 ^ 2926 = v
        ac_rfl
      rw [e2, e3, ec, own_one, show (4000 : Nat) = 2926 + 16 + 1058 from rfl, Nat.pow_add, Nat.pow_add, show (2 : Nat) ^ 16 = 65536 from rfl]
      generalize 2 ^ 1058 = u
      generalize 2 ^ 2926 = v
      ac_rfl
  have pos : 0 < 2 ^ (qc - b64.qmin).toNat := Nat.two_pow_pos _
  refine ⟨_, hq, sgn_roundRatio .., roundRatio_ne_nan _ _ _ _ _, roundRatio_fits good_b64 _ _ (by omega) _, ?_, ?_⟩
  · intro K hK h
    obtain ⟨V, hV, hn, -, hz⟩ := own_dyad hK
    rw [← hz]
    refine zmag_roundRatio_le good_b64 (e0 := -4000) (by omega) hV hn (by omega) (by omega) ?_
    rw [hz]
    refine Nat.le_of_mul_le_mul_right ?_ pos
    rw [(key K).1, (key K).2]
    exact Nat.mul_le_mul_right _ h
  · intro K hK h
    obtain ⟨V, hV, hn, -, hz⟩ := own_dyad hK
    rw [← hz]
    refine zmag_roundRatio_ge good_b64 (e0 := -4000) (by omega) hV (by omega) (by omega) ?_
    rw [hz]
    refine Nat.le_of_mul_le_mul_right ?_ pos
    rw [(key K).1, (key K).2]
    exact Nat.mul_le_mul_right _ h
theorem own_exp (x k u : Nat) : (x * 65536 + k) * u = 65536 * (x * u) + k * u := by rw [Nat.add_mul, Nat.mul_comm x 65536, Nat.mul_assoc]
theorem own_fin {D : Datum} {K : Nat} (hn : D ≠ .nan) (hK : K < 2 ^ 53) (h : zmag b64 D ≤ K * 2 ^ 1058) : ∃ s c q, D = .fin s c q := by
  cases D with
  | nan => exact absurd rfl hn
  | fin s c q => exact ⟨s, c, q, rfl⟩
  | inf s =>
    exfalso
    have h1 : b64.tails * 2 ^ (b64.exps - 2) ≤ K * 2 ^ 1058 := h
    have h2 : K * 2 ^ 1058 < 2 ^ 53 * 2 ^ 1058 := Nat.mul_lt_mul_of_pos_right hK (Nat.two_pow_pos _)
    rw [show b64.tails = 2 ^ 52 from tails_b64, show b64.exps - 2 = 2046 by decide, ← Nat.pow_add] at h1
    rw [← Nat.pow_add] at h2
    exact absurd (Nat.lt_of_le_of_lt h1 h2) (Nat.not_lt.mpr (Nat.pow_le_pow_right (by decide) (by decide)))
/-- the sum of a whole number and a number that lies between two sixteenths' powers, against K / 2^16 -/
theorem own_sum {a : Int64} {d : UInt64} (h0 : 0 ≤ a.toInt) (h1 : a.toInt < 9007199254740992) (hd : ∃ s c q, val64 d = .fin s c q) (sd : sgn (val64 d) = false) {K : Nat} (hK : K < 2 ^ 53) :
    (a.toInt.toNat * (65536 * 2 ^ 1058) + zmag b64 (val64 d) ≤ K * 2 ^ 1058 → zval b64 (val64 (dadd (l2d a) d)) ≤ ((K * 2 ^ 1058 : Nat) : Int)) ∧
    (K * 2 ^ 1058 ≤ a.toInt.toNat * (65536 * 2 ^ 1058) + zmag b64 (val64 d) → ((K * 2 ^ 1058 : Nat) : Int) ≤ zval b64 (val64 (dadd (l2d a) d))) := by
  obtain ⟨V, hV, hn, sV, hz⟩ := own_dyad hK
  obtain ⟨c, q, hs, -, -, -⟩ := own_shape h0 h1
  have za : zval b64 (val64 (l2d a)) = ((a.toInt.toNat * (65536 * 2 ^ 1058) : Nat) : Int) := by
    rw [DInt_zval (l2d_whole ⟨by omega, h1⟩), own_one, Int.natCast_mul _ (65536 * 2 ^ 1058), Int.toNat_of_nonneg h0]
  have zd : zval b64 (val64 d) = (zmag b64 (val64 d) : Int) := own_zv sd
  have zV : zval b64 V = ((K * 2 ^ 1058 : Nat) : Int) := by rw [own_zv sV, hz]
  rw [val64_dadd, ← zV]
  constructor
  · intro h
    refine sum_le good_b64 ⟨_, _, _, hs⟩ hd (val64_fits _) (val64_fits _) hV hn ?_
    rw [za, zd, zV, ← Int.natCast_add]
    exact Int.ofNat_le.mpr h
  · intro h
    refine sum_ge good_b64 ⟨_, _, _, hs⟩ hd (val64_fits _) (val64_fits _) hV hn ?_
    rw [za, zd, zV, ← Int.natCast_add]
    exact Int.ofNat_le.mpr h
theorem own_div {a p c lo : Int64} (ha0 : 0 ≤ a.toInt) (ha1 : a.toInt < 1073741824) (hp0 : 0 ≤ p.toInt) (hp1 : p.toInt < 70368744177664) (hc0 : 1 ≤ c.toInt) (hc1 : c.toInt ≤ 65536) (hq1 : p.toInt / c.toInt < 1073741824) (hlo : lo.toInt = a.toInt + p.toInt / c.toInt) :
    dIsNaN (ddiv (l2d p) (l2d c)) = false ∧ dIsNaN (dadd (l2d a) (ddiv (l2d p) (l2d c))) = false ∧
    (p.toInt % c.toInt = 0 → dcmp (dadd (l2d a) (ddiv (l2d p) (l2d c))) (l2d lo) = some .eq) ∧
    (p.toInt % c.toInt ≠ 0 → dcmp (l2d lo) (dadd (l2d a) (ddiv (l2d p) (l2d c))) = some .lt ∧ dcmp (dadd (l2d a) (ddiv (l2d p) (l2d c))) (l2d (lo + 1)) = some .lt) := by
  obtain ⟨D, hD, sD, nD, fD, le, ge⟩ := own_quot (p := p) (c := c) hp0 (by omega) (by omega) (by omega)
  generalize hd : ddiv (l2d p) (l2d c) = d at *
  obtain ⟨P, hP⟩ : ∃ n : Nat, p.toInt = n := ⟨p.toInt.toNat, by omega⟩
  obtain ⟨N, hN⟩ : ∃ n : Nat, c.toInt = n := ⟨c.toInt.toNat, by omega⟩
  obtain ⟨A, hA⟩ : ∃ n : Nat, a.toInt = n := ⟨a.toInt.toNat, by omega⟩
  have qe : p.toInt / c.toInt = ((P / N : Nat) : Int) := by rw [hP, hN]; exact (Int.natCast_ediv P N).symm
  have me : p.toInt % c.toInt = ((P % N : Nat) : Int) := by rw [hP, hN]; exact (Int.natCast_emod P N).symm
  rw [qe] at hq1 hlo
  rw [me]
  have dm := Nat.div_add_mod P N
  have ml := Nat.mod_lt P (show 0 < N by omega)
  generalize P / N = Q at *
  generalize P % N = M at *
  rw [show p.toInt.toNat = P by omega, show c.toInt.toNat = N by omega] at le ge
  rw [Nat.mul_comm N Q] at dm
  have hQ : Q < 1073741824 := by omega
  have hlo0 : 0 ≤ lo.toInt ∧ lo.toInt < 2147483648 := by omega
  have top := le (Q * 65536 + 65536) (by omega) (by rw [own_exp]; omega)
  have fin := own_fin nD (by omega) top
  rw [← hD] at fin sD nD
  have nn : dIsNaN d = false := (notNaN_iff d).mpr nD
  have rn : dIsNaN (dadd (l2d a) d) = false := dadd_out' (l2d_fin a) nn
  have rv : val64 (dadd (l2d a) d) ≠ .nan := (notNaN_iff _).mp rn
  have lv : ∀ x : Int64, val64 (l2d x) ≠ .nan := fun x => (l2d_fin x).ne_nan
  have zl : ∀ x : Int64, 0 ≤ x.toInt → x.toInt < 9007199254740992 → zval b64 (val64 (l2d x)) = ((x.toInt.toNat * (65536 * 2 ^ 1058) : Nat) : Int) := fun x h0 h1 => by
    rw [DInt_zval (l2d_whole ⟨by omega, h1⟩), own_one, Int.natCast_mul _ (65536 * 2 ^ 1058), Int.toNat_of_nonneg h0]
  have sm := fun (K : Nat) (hK : K < 2 ^ 53) => own_sum (a := a) (d := d) ha0 (by omega) fin sD hK
  have zlo := zl lo (by omega) (by omega)
  have lo1 : (lo + 1).toInt = lo.toInt + 1 := by
    rw [int64_add (by rw [show (1 : Int64).toInt = 1 by decide]; omega) (by rw [show (1 : Int64).toInt = 1 by decide]; omega)]; rfl
  have zlo1 := zl (lo + 1) (by omega) (by omega)
  rw [show a.toInt.toNat = A by omega] at sm
  rw [show lo.toInt.toNat = A + Q by omega] at zlo
  rw [show (lo + 1).toInt.toNat = A + Q + 1 by omega] at zlo1
  rw [← hD] at le ge
  have pos : 0 < 2 ^ 1058 := Nat.two_pow_pos 1058
  have e0 : ∀ x : Nat, x * (65536 * 2 ^ 1058) = 65536 * (x * 2 ^ 1058) := fun x => Nat.mul_left_comm ..
  simp only [e0] at sm zlo zlo1
  have ex := fun x k => own_exp x k (2 ^ 1058)
  have a1 : (A + Q) * 2 ^ 1058 = A * 2 ^ 1058 + Q * 2 ^ 1058 := Nat.add_mul ..
  have a2 : (A + Q + 1) * 2 ^ 1058 = A * 2 ^ 1058 + Q * 2 ^ 1058 + 2 ^ 1058 := by rw [Nat.add_mul, Nat.add_mul, Nat.one_mul]
  generalize 2 ^ 1058 = u at *
  refine ⟨nn, rn, fun hM => ?_, fun hM => ?_⟩
  · have hM' : M = 0 := by omega
    have l1 := le (Q * 65536 + 0) (by omega) (by rw [own_exp]; omega)
    have g1 := ge (Q * 65536 + 0) (by omega) (by rw [own_exp]; omega)
    have s1 := (sm ((A + Q) * 65536 + 0) (by omega)).1
    have s2 := (sm ((A + Q) * 65536 + 0) (by omega)).2
    rw [ex] at l1 g1 s1 s2
    have r1 := s1 (by omega)
    have r2 := s2 (by omega)
    rw [dcmp_zval rv (lv lo), compare_eq_iff _ _ |>.mpr (by omega)]
  · have l1 := le (Q * 65536 + 65535) (by omega) (by rw [own_exp]; omega)
    have g1 := ge (Q * 65536 + 1) (by omega) (by rw [own_exp]; omega)
    have s1 := (sm ((A + Q) * 65536 + 65535) (by omega)).1
    have s2 := (sm ((A + Q) * 65536 + 1) (by omega)).2
    rw [ex] at l1 g1 s1 s2
    have r1 := s1 (by omega)
    have r2 := s2 (by omega)
    constructor
    · rw [dcmp_zval (lv lo) rv, compare_lt_iff _ _ |>.mpr (by omega)]
    · rw [dcmp_zval rv (lv _), compare_lt_iff _ _ |>.mpr (by omega)]
end OwnFp
open Jvm.FP Jvm.Free.Fl in
theorem own_count {p2 cc : Int32} (hcc : cc = ((1 : Int32) + (p2 &&& (65535 : Int32)))) : cc ≠ 0 ∧ cc.toInt64 ≠ 0 ∧ 1 ≤ cc.toInt ∧ cc.toInt ≤ 65536 := by
  have h1 := c_mask p2 65535 16 (by decide) (by decide)
  have h2 := c_iadd 1 (p2 &&& (65535 : Int32))
  have h3 := rng32 cc
  rw [← hcc, show (1 : Int32).toInt = 1 by decide] at h2
  have h4 : 1 ≤ cc.toInt ∧ cc.toInt ≤ 65536 := by omega
  refine ⟨fun q => ?_, fun q => ?_, h4⟩
  · rw [q, show (0 : Int32).toInt = 0 by decide] at h4; omega
  · have := c_i2l cc
    rw [q, show (0 : Int64).toInt = 0 by decide] at this; omega
open Jvm.FP Jvm.Free.Fl in
theorem own_facts {p0 p1 p2 p3 ff ss tt cc ii : Int32} (hff : ff = (p0 &&& (1073741823 : Int32))) (hss : ss = (p1 &&& (1073741823 : Int32))) (htt : tt = (ff + ss)) (hcc : cc = ((1 : Int32) + (p2 &&& (65535 : Int32)))) (hii : ii = ((p3 &&& (2147483647 : Int32)) % cc)) :
    tt - ff = ss ∧ NoNaN64 (FP.ddiv (FP.l2d ((ii.toInt64) * ((tt - ff).toInt64))) (FP.i2d cc)) ∧ NoNaN64 (FP.dadd (FP.i2d ff) (FP.ddiv (FP.l2d ((ii.toInt64) * ((tt - ff).toInt64))) (FP.i2d cc))) ∧
    ((((ii.toInt64) * (ss.toInt64)) - (((ii.toInt64) * (ss.toInt64)) / (cc.toInt64)) * (cc.toInt64)) = (0 : Int64) → cmpValue (FP.dcmp (FP.dadd (FP.i2d ff) (FP.ddiv (FP.l2d ((ii.toInt64) * ((tt - ff).toInt64))) (FP.i2d cc))) (FP.l2d ((ff.toInt64) + (((ii.toInt64) * (ss.toInt64)) / (cc.toInt64))))) .l = 0) ∧
    (¬ (((ii.toInt64) * (ss.toInt64)) - (((ii.toInt64) * (ss.toInt64)) / (cc.toInt64)) * (cc.toInt64)) = (0 : Int64) → cmpValue (FP.dcmp (FP.l2d ((ff.toInt64) + (((ii.toInt64) * (ss.toInt64)) / (cc.toInt64)))) (FP.dadd (FP.i2d ff) (FP.ddiv (FP.l2d ((ii.toInt64) * ((tt - ff).toInt64))) (FP.i2d cc)))) .g = -1 ∧
      cmpValue (FP.dcmp (FP.dadd (FP.i2d ff) (FP.ddiv (FP.l2d ((ii.toInt64) * ((tt - ff).toInt64))) (FP.i2d cc))) (FP.dadd (FP.l2d ((ff.toInt64) + (((ii.toInt64) * (ss.toInt64)) / (cc.toInt64)))) FP.dconst1)) .g = -1 ∧
      NoNaN64 (FP.dadd (FP.l2d ((ff.toInt64) + (((ii.toInt64) * (ss.toInt64)) / (cc.toInt64)))) FP.dconst1)) := by
  obtain ⟨-, -, hc0, hc1⟩ := own_count hcc
  have f1 := c_mask p0 1073741823 30 (by decide) (by decide)
  have s1 := c_mask p1 1073741823 30 (by decide) (by decide)
  have d1 := c_mask p3 2147483647 31 (by decide) (by decide)
  rw [← hff] at f1
  rw [← hss] at s1
  have i1 := (c_iremV (p3 &&& (2147483647 : Int32)) cc).1 (by omega) (by omega)
  rw [← hii] at i1
  have ts : tt - ff = ss := by
    have a := c_iadd ff ss
    rw [← htt] at a
    have b := c_isub tt ff
    have r1 := rng32 (tt - ff)
    have r2 := rng32 ss
    exact Int32.toInt_inj.mp (by omega)
  rw [ts, i2d_w, i2d_w]
  have fL := c_i2l ff
  have sL := c_i2l ss
  have cL := c_i2l cc
  have iL := c_i2l ii
  have mcc := mc (a := ii.toInt) (b := ss.toInt) (l1 := 0) (h1 := 65535) (l2 := 0) (h2 := 1073741823) (by omega) (by omega) (by omega) (by omega)
  have pL : (ii.toInt64 * ss.toInt64).toInt = ii.toInt * ss.toInt := by
    rw [Core.int64_mul (by rw [iL, sL]; omega) (by rw [iL, sL]; omega), iL, sL]
  generalize ii.toInt64 * ss.toInt64 = P at *
  have cn1 : cc.toInt64 ≠ -1 := fun q => by rw [q, show (-1 : Int64).toInt = -1 by decide] at cL; omega
  have qL := (c_ldiv P cc.toInt64 cc.toInt cL cn1).1 (by omega)
  have rL := (c_lrem P cc.toInt64 cc.toInt cL).1 (by omega)
  have q0 : 0 ≤ P.toInt / cc.toInt := Int.ediv_nonneg (by omega) (by omega)
  have q1 : P.toInt / cc.toInt < 1073741824 := Int.ediv_lt_of_lt_mul (by omega) (by omega)
  have loL : (ff.toInt64 + P / cc.toInt64).toInt = ff.toInt + P.toInt / cc.toInt := by
    rw [Core.int64_add (by rw [fL, qL]; omega) (by rw [fL, qL]; omega), fL, qL]
  obtain ⟨n1, n2, h3, h4⟩ := own_div (a := ff.toInt64) (p := P) (c := cc.toInt64) (lo := ff.toInt64 + P / cc.toInt64) (by omega) (by omega) (by omega) (by omega) (by omega) (by omega) (by rw [cL]; exact q1) (by rw [loL, fL, cL])
  rw [cL] at h3 h4
  have mz : P - P / cc.toInt64 * cc.toInt64 = 0 ↔ P.toInt % cc.toInt = 0 := by
    rw [← Int64.toInt_inj, rL, show (0 : Int64).toInt = 0 by decide]
  have hone : FP.dconst1 = FP.l2d 1 := by decide +kernel
  have b1 : B53 (ff.toInt64 + P / cc.toInt64) := ⟨by rw [loL]; omega, by rw [loL]; omega⟩
  have b2 : B53 1 := ⟨by decide, by decide⟩
  refine ⟨rfl, noNaN64_no.mpr n1, noNaN64_no.mpr n2, fun h => ?_, fun h => ?_⟩
  · rw [show FP.dcmp (FP.dadd (FP.l2d ff.toInt64) (FP.ddiv (FP.l2d P) (FP.l2d cc.toInt64))) (FP.l2d (ff.toInt64 + P / cc.toInt64)) = some .eq from h3 (mz.mp h)]; rfl
  · obtain ⟨x1, x2⟩ := h4 (fun q => h (mz.mpr q))
    refine ⟨?_, ?_, ?_⟩
    · rw [show FP.dcmp (FP.l2d (ff.toInt64 + P / cc.toInt64)) (FP.dadd (FP.l2d ff.toInt64) (FP.ddiv (FP.l2d P) (FP.l2d cc.toInt64))) = some .lt from x1]; rfl
    · rw [hone, dadd_w b1 b2, show FP.dcmp (FP.dadd (FP.l2d ff.toInt64) (FP.ddiv (FP.l2d P) (FP.l2d cc.toInt64))) (FP.l2d (ff.toInt64 + P / cc.toInt64 + 1)) = some .lt from x2]; rfl
    · rw [hone, dadd_w b1 b2]; exact nn_w rfl

abbrev GO (p : Program) (e : Env) (below : List Frame) (T : State) (g : JFrame) (t : State) : Prop := Steps p.tables e below (T.setTop g) t
theorem wd {Z : State} {a0 : Array Value} (hw : ∀ d ∈ tables_1, d.before a0 Z = true) (i : Nat) {d : Jvm.Cond} (h : tables_1[i]? = some d) : d.before a0 Z = true := hw _ (List.mem_of_getElem? h)
abbrev la0 (x0 : Addr) (x1 : Int32) (x2 : Int32) (x3 : Int32) : Array Slot := #[.val (.ref x0), .val (.int x1), .val (.int x2), .val (.int x3)]
abbrev la1 (x0 : Int32) (x1 : Int32) (x2 : Int32) (x3 : Int32) : Array Slot := #[.val (.int x0), .val (.int x1), .val (.int x2), .val (.int x3), .unset, .unset, .unset, .unset, .unset, .unset, .unset, .unset, .unset, .unset, .unset, .unset, .unset, .unset, .unset, .unset]
abbrev la2 (x0 : Int32) (x1 : Int32) (x2 : Int32) (x3 : Int32) (x4 : Int32) : Array Slot := #[.val (.int x0), .val (.int x1), .val (.int x2), .val (.int x3), .val (.int x4), .unset, .unset, .unset, .unset, .unset, .unset, .unset, .unset, .unset, .unset, .unset, .unset, .unset, .unset, .unset]
abbrev la3 (x0 : Int32) (x1 : Int32) (x2 : Int32) (x3 : Int32) (x4 : Int32) (x5 : Int32) : Array Slot := #[.val (.int x0), .val (.int x1), .val (.int x2), .val (.int x3), .val (.int x4), .val (.int x5), .unset, .unset, .unset, .unset, .unset, .unset, .unset, .unset, .unset, .unset, .unset, .unset, .unset, .unset]
abbrev la4 (x0 : Int32) (x1 : Int32) (x2 : Int32) (x3 : Int32) (x4 : Int32) (x5 : Int32) (x6 : Int32) : Array Slot := #[.val (.int x0), .val (.int x1), .val (.int x2), .val (.int x3), .val (.int x4), .val (.int x5), .val (.int x6), .unset, .unset, .unset, .unset, .unset, .unset, .unset, .unset, .unset, .unset, .unset, .unset, .unset]
abbrev la5 (x0 : Int32) (x1 : Int32) (x2 : Int32) (x3 : Int32) (x4 : Int32) (x5 : Int32) (x6 : Int32) (x7 : Int32) : Array Slot := #[.val (.int x0), .val (.int x1), .val (.int x2), .val (.int x3), .val (.int x4), .val (.int x5), .val (.int x6), .val (.int x7), .unset, .unset, .unset, .unset, .unset, .unset, .unset, .unset, .unset, .unset, .unset, .unset]
abbrev la6 (x0 : Int32) (x1 : Int32) (x2 : Int32) (x3 : Int32) (x4 : Int32) (x5 : Int32) (x6 : Int32) (x7 : Int32) (x8 : Int32) : Array Slot := #[.val (.int x0), .val (.int x1), .val (.int x2), .val (.int x3), .val (.int x4), .val (.int x5), .val (.int x6), .val (.int x7), .val (.int x8), .unset, .unset, .unset, .unset, .unset, .unset, .unset, .unset, .unset, .unset, .unset]
abbrev la7 (x0 : Int32) (x1 : Int32) (x2 : Int32) (x3 : Int32) (x4 : Int32) (x5 : Int32) (x6 : Int32) (x7 : Int32) (x8 : Int32) (x9 : Addr) : Array Slot := #[.val (.int x0), .val (.int x1), .val (.int x2), .val (.int x3), .val (.int x4), .val (.int x5), .val (.int x6), .val (.int x7), .val (.int x8), .val (.ref x9), .unset, .unset, .unset, .unset, .unset, .unset, .unset, .unset, .unset, .unset]
abbrev la8 (x0 : Int32) (x1 : Int32) (x2 : Int32) (x3 : Int32) (x4 : Int32) (x5 : Int32) (x6 : Int32) (x7 : Int32) (x8 : Int32) (x9 : Addr) (x10 : UInt64) : Array Slot := #[.val (.int x0), .val (.int x1), .val (.int x2), .val (.int x3), .val (.int x4), .val (.int x5), .val (.int x6), .val (.int x7), .val (.int x8), .val (.ref x9), .val (.double x10), .second, .unset, .unset, .unset, .unset, .unset, .unset, .unset, .unset]
abbrev la9 (x0 : Int32) (x1 : Int32) (x2 : Int32) (x3 : Int32) (x4 : Int32) (x5 : Int32) (x6 : Int32) (x7 : Int32) (x8 : Int32) (x9 : Addr) (x10 : UInt64) (x12 : Int64) : Array Slot := #[.val (.int x0), .val (.int x1), .val (.int x2), .val (.int x3), .val (.int x4), .val (.int x5), .val (.int x6), .val (.int x7), .val (.int x8), .val (.ref x9), .val (.double x10), .second, .val (.long x12), .second, .unset, .unset, .unset, .unset, .unset, .unset]
abbrev la10 (x0 : Int32) (x1 : Int32) (x2 : Int32) (x3 : Int32) (x4 : Int32) (x5 : Int32) (x6 : Int32) (x7 : Int32) (x8 : Int32) (x9 : Addr) (x10 : UInt64) (x12 : Int64) (x14 : Int64) : Array Slot := #[.val (.int x0), .val (.int x1), .val (.int x2), .val (.int x3), .val (.int x4), .val (.int x5), .val (.int x6), .val (.int x7), .val (.int x8), .val (.ref x9), .val (.double x10), .second, .val (.long x12), .second, .val (.long x14), .second, .unset, .unset, .unset, .unset]
abbrev la11 (x0 : Int32) (x1 : Int32) (x2 : Int32) (x3 : Int32) (x4 : Int32) (x5 : Int32) (x6 : Int32) (x7 : Int32) (x8 : Int32) (x9 : Addr) (x10 : UInt64) (x12 : Int64) (x14 : Int64) (x16 : Int64) : Array Slot := #[.val (.int x0), .val (.int x1), .val (.int x2), .val (.int x3), .val (.int x4), .val (.int x5), .val (.int x6), .val (.int x7), .val (.int x8), .val (.ref x9), .val (.double x10), .second, .val (.long x12), .second, .val (.long x14), .second, .val (.long x16), .second, .unset, .unset]
abbrev la12 (x0 : Int32) (x1 : Int32) (x2 : Int32) (x3 : Int32) (x4 : Int32) (x5 : Int32) (x6 : Int32) (x7 : Int32) (x8 : Int32) (x9 : Addr) (x10 : UInt64) (x12 : Int64) (x14 : Int64) (x16 : Int64) (x18 : UInt64) : Array Slot := #[.val (.int x0), .val (.int x1), .val (.int x2), .val (.int x3), .val (.int x4), .val (.int x5), .val (.int x6), .val (.int x7), .val (.int x8), .val (.ref x9), .val (.double x10), .second, .val (.long x12), .second, .val (.long x14), .second, .val (.long x16), .second, .val (.double x18), .second]
theorem pd_0 : parseMethodDescriptor "(III)V" = some ⟨[.int, .int, .int], none⟩ := by decide +kernel
theorem pd_1 : parseMethodDescriptor "(I)D" = some ⟨[.int], some .double⟩ := by decide +kernel
theorem pn_0 : plainName "com/example/occupancy/occupancy/scenario/EvenDepartures" = true := by first | (simp [plainName, overriddenIn]; done) | decide +kernel
theorem pn_1 : plainName "com/example/occupancy/occupancy/scenario/EvenDeparturesDepartureSPinLaw" = true := by first | (simp [plainName, overriddenIn]; done) | decide +kernel
theorem d1_0 : decode prog_41_method_1_code 0 = .ok (.aload_n 0, 1) := by decide +kernel
theorem d1_1 : decode prog_41_method_1_code 1 = .ok (.invokespecial 1, 3) := by decide +kernel
theorem d1_4 : decode prog_41_method_1_code 4 = .ok (.aload_n 0, 1) := by decide +kernel
theorem d1_5 : decode prog_41_method_1_code 5 = .ok (.iload_n 1, 1) := by decide +kernel
theorem d1_6 : decode prog_41_method_1_code 6 = .ok (.putfield 7, 3) := by decide +kernel
theorem d1_9 : decode prog_41_method_1_code 9 = .ok (.aload_n 0, 1) := by decide +kernel
theorem d1_10 : decode prog_41_method_1_code 10 = .ok (.iload_n 2, 1) := by decide +kernel
theorem d1_11 : decode prog_41_method_1_code 11 = .ok (.putfield 13, 3) := by decide +kernel
theorem d1_14 : decode prog_41_method_1_code 14 = .ok (.aload_n 0, 1) := by decide +kernel
theorem d1_15 : decode prog_41_method_1_code 15 = .ok (.iload_n 3, 1) := by decide +kernel
theorem d1_16 : decode prog_41_method_1_code 16 = .ok (.putfield 16, 3) := by decide +kernel
theorem d1_19 : decode prog_41_method_1_code 19 = .ok (.return_, 1) := by decide +kernel
theorem d3_0 : decode prog_41_method_3_code 0 = .ok (.aload_n 0, 1) := by decide +kernel
theorem d3_1 : decode prog_41_method_3_code 1 = .ok (.getfield 13, 3) := by decide +kernel
theorem d3_4 : decode prog_41_method_3_code 4 = .ok (.i2d, 1) := by decide +kernel
theorem d3_5 : decode prog_41_method_3_code 5 = .ok (.iload_n 1, 1) := by decide +kernel
theorem d3_6 : decode prog_41_method_3_code 6 = .ok (.i2l, 1) := by decide +kernel
theorem d3_7 : decode prog_41_method_3_code 7 = .ok (.aload_n 0, 1) := by decide +kernel
theorem d3_8 : decode prog_41_method_3_code 8 = .ok (.getfield 16, 3) := by decide +kernel
theorem d3_11 : decode prog_41_method_3_code 11 = .ok (.aload_n 0, 1) := by decide +kernel
theorem d3_12 : decode prog_41_method_3_code 12 = .ok (.getfield 13, 3) := by decide +kernel
theorem d3_15 : decode prog_41_method_3_code 15 = .ok (.isub, 1) := by decide +kernel
theorem d3_16 : decode prog_41_method_3_code 16 = .ok (.i2l, 1) := by decide +kernel
theorem d3_17 : decode prog_41_method_3_code 17 = .ok (.lmul, 1) := by decide +kernel
theorem d3_18 : decode prog_41_method_3_code 18 = .ok (.l2d, 1) := by decide +kernel
theorem d3_19 : decode prog_41_method_3_code 19 = .ok (.aload_n 0, 1) := by decide +kernel
theorem d3_20 : decode prog_41_method_3_code 20 = .ok (.getfield 7, 3) := by decide +kernel
theorem d3_23 : decode prog_41_method_3_code 23 = .ok (.i2d, 1) := by decide +kernel
theorem d3_24 : decode prog_41_method_3_code 24 = .ok (.ddiv, 1) := by decide +kernel
theorem d3_25 : decode prog_41_method_3_code 25 = .ok (.dadd, 1) := by decide +kernel
theorem d3_26 : decode prog_41_method_3_code 26 = .ok (.dreturn, 1) := by decide +kernel

def Qrm_1 (Z : State) (a1 : Addr) (p2 : Int32) (p3 : Int32) (p4 : Int32) (u2 : Value) (u3 : Value) (u4 : Value) (h0 : Heap) (n0 : Nat) (v : Option Value) (h : Heap) (L : List Loc) : Prop := v = none ∧ Fr n0 L ∧ Keep h0 h [a1] ∧ Exa Z h a1 "com/example/occupancy/occupancy/scenario/EvenDepartures" ∧ Fld Z h a1 "com/example/occupancy/occupancy/scenario/EvenDepartures" "count" "I" (.int p2) ∧ Fld Z h a1 "com/example/occupancy/occupancy/scenario/EvenDepartures" "fromS" "I" (.int p3) ∧ Fld Z h a1 "com/example/occupancy/occupancy/scenario/EvenDepartures" "toS" "I" (.int p4)
theorem ef_rm_1 (m : MethodId) (x0 : Addr) (x1 : Int32) (x2 : Int32) (x3 : Int32) : entryFrame m #[(.ref x0), (.int x1), (.int x2), (.int x3)] 4 = mkF m 0 (la0 x0 x1 x2 x3) [] := by first | rfl | (simp [entryFrame, mkF, argsToLocals, Value.category]; done)
set_option maxRecDepth 65536 in
set_option maxHeartbeats 40000000 in
theorem rm_1 (l : Launch) (Z : State) (a0 : Array Value) (hw : ∀ d ∈ tables_1, d.before a0 Z = true) (ws : List Jvm.Cond) (a1 : Addr) (p2 : Int32) (p3 : Int32) (p4 : Int32) (u2 : Value) (u3 : Value) (u4 : Value) (h0 : Heap) (n0 : Nat) (Z0 : n0 ≤ h0.size) (E1 : Exa Z h0 a1 "com/example/occupancy/occupancy/scenario/EvenDepartures") (F2 : Fld Z h0 a1 "com/example/occupancy/occupancy/scenario/EvenDepartures" "count" "I" u2) (F3 : Fld Z h0 a1 "com/example/occupancy/occupancy/scenario/EvenDepartures" "fromS" "I" u3) (F4 : Fld Z h0 a1 "com/example/occupancy/occupancy/scenario/EvenDepartures" "toS" "I" u4) (g1 : n0 ≤ a1) :
    MetFree l (⟨"com/example/occupancy/occupancy/scenario/EvenDepartures", "<init>", "(III)V"⟩ : MethodName) (head1 (Jvm.Cond.code (⟨"com/example/occupancy/occupancy/scenario/EvenDepartures", "<init>", "(III)V"⟩ : MethodName) prog_41_method_1_code 4 none :: ws) ({ frames := 1, cells := 0, slots := 0, locals := 12 } : Room)) (fun a U => a = #[(.ref a1), (.int p2), (.int p3), (.int p4)] ∧ Z.Warmed39 U.vm ∧ U.heap = h0) (fun _ _ _ _ _ => True) (fun _ U o U' => ∃ v L, o = .returned v ∧ Qrm_1 Z a1 p2 p3 p4 u2 u3 u4 h0 n0 v U'.heap L ∧ FrameEnd U o U' L ({ frames := 1, cells := 0, slots := 0, locals := 12 } : Room).cells ({ frames := 1, cells := 0, slots := 0, locals := 12 } : Room).slots) := by
  refine MetFree.of_bodySF (plainFor_of_name pn_0) hisR ?_
  intro p e s m args below meth c s₁ Bd hml0 hP hK
  obtain ⟨rfl, hZ, hh⟩ := hP
  have hx := Bd.exec
  have hby := Bd.bytes
  have hml : c.maxLocals = 4 := hml0
  have hown : s.vm.findClass "com/example/occupancy/occupancy/scenario/EvenDepartures" = some m.cls := findClass_of_methodNamed Bd.named
  have hnm := (name_of_methodNamed Bd.named Bd.method).1
  have X0 : Stand p l e ({ frames := 1, cells := 0, slots := 0, locals := 12 } : Room) s m #[(.ref a1), (.int p2), (.int p3), (.int p4)] below meth c s₁ [] 0 0 := Stand.of_body Bd
  have e0 : s₁.heap = h0 := by rw [← hh, Bd.state]; rfl
  have N0 := Fr.nil n0
  have pre0 : ∀ t, Steps p.tables e below (s₁.setTop (mkF m 0 (la0 a1 p2 p3 p4) [])) t → Steps p.tables e below (s₁.setTop (entryFrame m #[(.ref a1), (.int p2), (.int p3), (.int p4)] 4)) t := fun t k => castTop (ef_rm_1 m a1 p2 p3 p4) k
  have lt_E1 := E1.lt
  have lt_F2 := F2.lt
  have lt_F3 := F3.lt
  have lt_F4 := F4.lt
  obtain ⟨T1, X1, e1, st1⟩ := initO X0 hx hZ hown (wd hw 9 rfl) (wd hw 10 rfl) (wd hw 11 rfl) e0 (g := (mkF m 1 (la0 a1 p2 p3 p4) [(.ref a1)])) rfl (by rw [hml]; rfl) rfl (hb hby d1_1) (by decide) (W := 0) (by show 2 * 0 + _ ≤ _; exact Nat.le_of_eq rfl) (by decide)
  obtain ⟨T2, h2, X2, e2, W2, st2⟩ := putF X1 hx hZ hown (host := "") (Or.inl (wd hw 12 rfl)) Via.refl e1 F2 E1 (Or.inr ⟨(wd hw 13 rfl), rfl, hnm⟩) (wd hw 4 rfl) (ty := .int) (by decide) rfl rfl (g := (mkF m 6 (la0 a1 p2 p3 p4) [(.int p2), (.ref a1)])) rfl rfl (hb hby d1_6)
  have N2 := Fr.snoc X2 N0 (by omega : n0 ≤ a1)
  have sz2 : h0.size ≤ h2.size := Nat.le_of_eq W2.size.symm
  have f2 : Fld Z h2 a1 "com/example/occupancy/occupancy/scenario/EvenDepartures" "count" "I" (.int p2) := F2.same W2
  have f3 : Fld Z h2 a1 "com/example/occupancy/occupancy/scenario/EvenDepartures" "fromS" "I" u3 := (F3.other W2 (Or.inr (slot_ne (Or.inr (wd hw 15 rfl)) (Or.inr (wd hw 13 rfl)) (by decide) (t := .int) (t' := .int) (by decide) (by decide))))
  have f4 : Exa Z h2 a1 "com/example/occupancy/occupancy/scenario/EvenDepartures" := (E1.wr W2)
  obtain ⟨T5, h5, X5, e5, W5, st5⟩ := putF X2 hx hZ hown (host := "") (Or.inl (wd hw 14 rfl)) Via.refl e2 f3 f4 (Or.inr ⟨(wd hw 15 rfl), rfl, hnm⟩) (wd hw 4 rfl) (ty := .int) (by decide) rfl rfl (g := (mkF m 11 (la0 a1 p2 p3 p4) [(.int p3), (.ref a1)])) rfl rfl (hb hby d1_11)
  have N5 := Fr.snoc X5 N2 (by omega : n0 ≤ a1)
  have sz5 : h2.size ≤ h5.size := Nat.le_of_eq W5.size.symm
  have f5 : Fld Z h5 a1 "com/example/occupancy/occupancy/scenario/EvenDepartures" "fromS" "I" (.int p3) := f3.same W5
  have f6 : Fld Z h5 a1 "com/example/occupancy/occupancy/scenario/EvenDepartures" "toS" "I" u4 := ((F4.other W2 (Or.inr (slot_ne (Or.inr (wd hw 17 rfl)) (Or.inr (wd hw 13 rfl)) (by decide) (t := .int) (t' := .int) (by decide) (by decide)))).other W5 (Or.inr (slot_ne (Or.inr (wd hw 17 rfl)) (Or.inr (wd hw 15 rfl)) (by decide) (t := .int) (t' := .int) (by decide) (by decide))))
  have f7 : Exa Z h5 a1 "com/example/occupancy/occupancy/scenario/EvenDepartures" := (f4.wr W5)
  obtain ⟨T8, h8, X8, e8, W8, st8⟩ := putF X5 hx hZ hown (host := "") (Or.inl (wd hw 16 rfl)) Via.refl e5 f6 f7 (Or.inr ⟨(wd hw 17 rfl), rfl, hnm⟩) (wd hw 4 rfl) (ty := .int) (by decide) rfl rfl (g := (mkF m 16 (la0 a1 p2 p3 p4) [(.int p4), (.ref a1)])) rfl rfl (hb hby d1_16)
  have N8 := Fr.snoc X8 N5 (by omega : n0 ≤ a1)
  have sz8 : h5.size ≤ h8.size := Nat.le_of_eq W8.size.symm
  have f8 : Fld Z h8 a1 "com/example/occupancy/occupancy/scenario/EvenDepartures" "toS" "I" (.int p4) := f6.same W8
  have f9 : Exa Z h8 a1 "com/example/occupancy/occupancy/scenario/EvenDepartures" := (f7.wr W8)
  have f10 : Fld Z h8 a1 "com/example/occupancy/occupancy/scenario/EvenDepartures" "count" "I" (.int p2) := ((f2.other W5 (Or.inr (slot_ne (Or.inr (wd hw 13 rfl)) (Or.inr (wd hw 15 rfl)) (by decide) (t := .int) (t' := .int) (by decide) (by decide)))).other W8 (Or.inr (slot_ne (Or.inr (wd hw 13 rfl)) (Or.inr (wd hw 17 rfl)) (by decide) (t := .int) (t' := .int) (by decide) (by decide))))
  have f11 : Fld Z h8 a1 "com/example/occupancy/occupancy/scenario/EvenDepartures" "fromS" "I" (.int p3) := (f5.other W8 (Or.inr (slot_ne (Or.inr (wd hw 15 rfl)) (Or.inr (wd hw 17 rfl)) (by decide) (t := .int) (t' := .int) (by decide) (by decide))))
  obtain ⟨fs, hr, hrun, hended, hW, hsame⟩ := X8.leave (v := none) (fun _ => rfl)
  refine ⟨_, _, pre0 _ ?_, hrun, hended, _, _, rfl, ?_, ⟨_, rfl⟩, hW, hsame.mono (by decide) (by decide)⟩
  · show GO p e below s₁ (mkF m 0 (la0 a1 p2 p3 p4) []) _
    refine XS.aloadN X0.here hx rfl (hb hby d1_0) rfl rfl ?_
    show GO p e below s₁ (mkF m 1 (la0 a1 p2 p3 p4) [(.ref a1)]) _
    refine st1 _ ?_
    show GO p e below T1 (mkF m 4 (la0 a1 p2 p3 p4) []) _
    refine XS.aloadN X1.here hx rfl (hb hby d1_4) rfl rfl ?_
    show GO p e below T1 (mkF m 5 (la0 a1 p2 p3 p4) [(.ref a1)]) _
    refine XS.iloadN X1.here hx rfl (hb hby d1_5) rfl ?_
    show GO p e below T1 (mkF m 6 (la0 a1 p2 p3 p4) [(.int p2), (.ref a1)]) _
    refine st2 _ ?_
    show GO p e below T2 (mkF m 9 (la0 a1 p2 p3 p4) []) _
    refine XS.aloadN X2.here hx rfl (hb hby d1_9) rfl rfl ?_
    show GO p e below T2 (mkF m 10 (la0 a1 p2 p3 p4) [(.ref a1)]) _
    refine XS.iloadN X2.here hx rfl (hb hby d1_10) rfl ?_
    show GO p e below T2 (mkF m 11 (la0 a1 p2 p3 p4) [(.int p3), (.ref a1)]) _
    refine st5 _ ?_
    show GO p e below T5 (mkF m 14 (la0 a1 p2 p3 p4) []) _
    refine XS.aloadN X5.here hx rfl (hb hby d1_14) rfl rfl ?_
    show GO p e below T5 (mkF m 15 (la0 a1 p2 p3 p4) [(.ref a1)]) _
    refine XS.iloadN X5.here hx rfl (hb hby d1_15) rfl ?_
    show GO p e below T5 (mkF m 16 (la0 a1 p2 p3 p4) [(.int p4), (.ref a1)]) _
    refine st8 _ ?_
    show GO p e below T8 (mkF m 19 (la0 a1 p2 p3 p4) []) _
    exact X8.returnOut hx Bd.returns (hb hby d1_19) hr
  · show Qrm_1 Z a1 p2 p3 p4 u2 u3 u4 h0 n0 _ T8.heap _
    rw [e8]
    exact ⟨rfl, N8, ((((Keep.refl h0 [a1]).wr W2 (Or.inl (List.mem_of_getElem? (i := 0) rfl))).wr W5 (Or.inl (List.mem_of_getElem? (i := 0) rfl))).wr W8 (Or.inl (List.mem_of_getElem? (i := 0) rfl))), f9, f10, f11, f8⟩
def Qrm_3 (Z : State) (a1 : Addr) (p2 : Int32) (c1 : Int32) (f1 : Int32) (t1 : Int32) (h0 : Heap) (n0 : Nat) (v : Option Value) (h : Heap) (L : List Loc) : Prop := v = some (.double (FP.dadd (FP.i2d f1) (FP.ddiv (FP.l2d ((p2.toInt64) * ((t1 - f1).toInt64))) (FP.i2d c1)))) ∧ Fr n0 L ∧ h = h0
theorem ef_rm_3 (m : MethodId) (x0 : Addr) (x1 : Int32) : entryFrame m #[(.ref x0), (.int x1)] 2 = mkF m 0 #[.val (.ref x0), .val (.int x1)] [] := by first | rfl | (simp [entryFrame, mkF, argsToLocals, Value.category]; done)
set_option maxRecDepth 65536 in
set_option maxHeartbeats 40000000 in
theorem rm_3 (l : Launch) (Z : State) (a0 : Array Value) (hw : ∀ d ∈ tables_1, d.before a0 Z = true) (ws : List Jvm.Cond) (a1 : Addr) (p2 : Int32) (c1 : Int32) (f1 : Int32) (t1 : Int32) (h0 : Heap) (n0 : Nat) (Z0 : n0 ≤ h0.size) (F2 : Fld Z h0 a1 "com/example/occupancy/occupancy/scenario/EvenDepartures" "count" "I" (.int c1)) (F3 : Fld Z h0 a1 "com/example/occupancy/occupancy/scenario/EvenDepartures" "fromS" "I" (.int f1)) (F4 : Fld Z h0 a1 "com/example/occupancy/occupancy/scenario/EvenDepartures" "toS" "I" (.int t1)) (hn1 : Jvm.Free.Fl.NoNaN64 (FP.ddiv (FP.l2d (p2.toInt64 * (t1 - f1).toInt64)) (FP.i2d c1))) (hn2 : Jvm.Free.Fl.NoNaN64 (FP.dadd (FP.i2d f1) (FP.ddiv (FP.l2d (p2.toInt64 * (t1 - f1).toInt64)) (FP.i2d c1)))) :
    MetFree l (⟨"com/example/occupancy/occupancy/scenario/EvenDepartures", "departureS", "(I)D"⟩ : MethodName) (head1 (Jvm.Cond.code (⟨"com/example/occupancy/occupancy/scenario/EvenDepartures", "departureS", "(I)D"⟩ : MethodName) prog_41_method_3_code 2 (some .double) :: ws) ({ frames := 0, cells := 0, slots := 0, locals := 0 } : Room)) (fun a U => a = #[(.ref a1), (.int p2)] ∧ Z.Warmed39 U.vm ∧ U.heap = h0) (fun _ _ _ _ _ => True) (fun _ U o U' => ∃ v L, o = .returned v ∧ Qrm_3 Z a1 p2 c1 f1 t1 h0 n0 v U'.heap L ∧ FrameEnd U o U' L ({ frames := 0, cells := 0, slots := 0, locals := 0 } : Room).cells ({ frames := 0, cells := 0, slots := 0, locals := 0 } : Room).slots) := by
  refine MetFree.of_bodySF (plainFor_of_name pn_0) hisR ?_
  intro p e s m args below meth c s₁ Bd hml0 hP hK
  obtain ⟨rfl, hZ, hh⟩ := hP
  have hx := Bd.exec
  have hby := Bd.bytes
  have hml : c.maxLocals = 2 := hml0
  have hown : s.vm.findClass "com/example/occupancy/occupancy/scenario/EvenDepartures" = some m.cls := findClass_of_methodNamed Bd.named
  have hnm := (name_of_methodNamed Bd.named Bd.method).1
  have X0 : Stand p l e ({ frames := 0, cells := 0, slots := 0, locals := 0 } : Room) s m #[(.ref a1), (.int p2)] below meth c s₁ [] 0 0 := Stand.of_body Bd
  have e0 : s₁.heap = h0 := by rw [← hh, Bd.state]; rfl
  have N0 := Fr.nil n0
  have pre0 : ∀ t, Steps p.tables e below (s₁.setTop (mkF m 0 #[.val (.ref a1), .val (.int p2)] [])) t → Steps p.tables e below (s₁.setTop (entryFrame m #[(.ref a1), (.int p2)] 2)) t := fun t k => castTop (ef_rm_3 m a1 p2) k
  have lt_F2 := F2.lt
  have lt_F3 := F3.lt
  have lt_F4 := F4.lt
  obtain ⟨T12, X12, e12, st12⟩ := getF X0 hx hZ hown (host := "") (Or.inl (wd hw 14 rfl)) Via.refl e0 F3 (g := (mkF m 1 #[.val (.ref a1), .val (.int p2)] [(.ref a1)])) rfl rfl (hb hby d3_1)
  obtain ⟨T13, X13, e13, st13⟩ := getF X12 hx hZ hown (host := "") (Or.inl (wd hw 16 rfl)) Via.refl e12 F4 (g := (mkF m 8 #[.val (.ref a1), .val (.int p2)] [(.ref a1), (.long (p2.toInt64)), (.double (FP.i2d f1))])) rfl rfl (hb hby d3_8)
  obtain ⟨T14, X14, e14, st14⟩ := getF X13 hx hZ hown (host := "") (Or.inl (wd hw 14 rfl)) Via.refl e13 F3 (g := (mkF m 12 #[.val (.ref a1), .val (.int p2)] [(.ref a1), (.int t1), (.long (p2.toInt64)), (.double (FP.i2d f1))])) rfl rfl (hb hby d3_12)
  obtain ⟨T15, X15, e15, st15⟩ := getF X14 hx hZ hown (host := "") (Or.inl (wd hw 12 rfl)) Via.refl e14 F2 (g := (mkF m 20 #[.val (.ref a1), .val (.int p2)] [(.ref a1), (.double (FP.l2d ((p2.toInt64) * ((t1 - f1).toInt64)))), (.double (FP.i2d f1))])) rfl rfl (hb hby d3_20)
  obtain ⟨fs, hr, hrun, hended, hW, hsame⟩ := X15.leave (v := some (.double (FP.dadd (FP.i2d f1) (FP.ddiv (FP.l2d ((p2.toInt64) * ((t1 - f1).toInt64))) (FP.i2d c1))))) (fun h => by rw [Bd.returns] at h; cases h)
  refine ⟨_, _, pre0 _ ?_, hrun, hended, _, _, rfl, ?_, ⟨_, rfl⟩, hW, hsame.mono (by decide) (by decide)⟩
  · show GO p e below s₁ (mkF m 0 #[.val (.ref a1), .val (.int p2)] []) _
    refine XS.aloadN X0.here hx rfl (hb hby d3_0) rfl rfl ?_
    show GO p e below s₁ (mkF m 1 #[.val (.ref a1), .val (.int p2)] [(.ref a1)]) _
    refine st12 _ ?_
    show GO p e below T12 (mkF m 4 #[.val (.ref a1), .val (.int p2)] [(.int f1)]) _
    refine XS.i2dS X12.here hx rfl (hb hby d3_4) rfl rfl ?_
    show GO p e below T12 (mkF m 5 #[.val (.ref a1), .val (.int p2)] [(.double (FP.i2d f1))]) _
    refine XS.iloadN X12.here hx rfl (hb hby d3_5) rfl ?_
    show GO p e below T12 (mkF m 6 #[.val (.ref a1), .val (.int p2)] [(.int p2), (.double (FP.i2d f1))]) _
    refine XS.i2l X12.here hx rfl (hb hby d3_6) rfl ?_
    show GO p e below T12 (mkF m 7 #[.val (.ref a1), .val (.int p2)] [(.long (p2.toInt64)), (.double (FP.i2d f1))]) _
    refine XS.aloadN X12.here hx rfl (hb hby d3_7) rfl rfl ?_
    show GO p e below T12 (mkF m 8 #[.val (.ref a1), .val (.int p2)] [(.ref a1), (.long (p2.toInt64)), (.double (FP.i2d f1))]) _
    refine st13 _ ?_
    show GO p e below T13 (mkF m 11 #[.val (.ref a1), .val (.int p2)] [(.int t1), (.long (p2.toInt64)), (.double (FP.i2d f1))]) _
    refine XS.aloadN X13.here hx rfl (hb hby d3_11) rfl rfl ?_
    show GO p e below T13 (mkF m 12 #[.val (.ref a1), .val (.int p2)] [(.ref a1), (.int t1), (.long (p2.toInt64)), (.double (FP.i2d f1))]) _
    refine st14 _ ?_
    show GO p e below T14 (mkF m 15 #[.val (.ref a1), .val (.int p2)] [(.int f1), (.int t1), (.long (p2.toInt64)), (.double (FP.i2d f1))]) _
    refine XS.isub X14.here hx rfl (hb hby d3_15) rfl ?_
    show GO p e below T14 (mkF m 16 #[.val (.ref a1), .val (.int p2)] [(.int (t1 - f1)), (.long (p2.toInt64)), (.double (FP.i2d f1))]) _
    refine XS.i2l X14.here hx rfl (hb hby d3_16) rfl ?_
    show GO p e below T14 (mkF m 17 #[.val (.ref a1), .val (.int p2)] [(.long ((t1 - f1).toInt64)), (.long (p2.toInt64)), (.double (FP.i2d f1))]) _
    refine XS.lmul X14.here hx rfl (hb hby d3_17) rfl ?_
    show GO p e below T14 (mkF m 18 #[.val (.ref a1), .val (.int p2)] [(.long ((p2.toInt64) * ((t1 - f1).toInt64))), (.double (FP.i2d f1))]) _
    refine XS.l2dS X14.here hx rfl (hb hby d3_18) rfl rfl ?_
    show GO p e below T14 (mkF m 19 #[.val (.ref a1), .val (.int p2)] [(.double (FP.l2d ((p2.toInt64) * ((t1 - f1).toInt64)))), (.double (FP.i2d f1))]) _
    refine XS.aloadN X14.here hx rfl (hb hby d3_19) rfl rfl ?_
    show GO p e below T14 (mkF m 20 #[.val (.ref a1), .val (.int p2)] [(.ref a1), (.double (FP.l2d ((p2.toInt64) * ((t1 - f1).toInt64)))), (.double (FP.i2d f1))]) _
    refine st15 _ ?_
    show GO p e below T15 (mkF m 23 #[.val (.ref a1), .val (.int p2)] [(.int c1), (.double (FP.l2d ((p2.toInt64) * ((t1 - f1).toInt64)))), (.double (FP.i2d f1))]) _
    refine XS.i2dS X15.here hx rfl (hb hby d3_23) rfl rfl ?_
    show GO p e below T15 (mkF m 24 #[.val (.ref a1), .val (.int p2)] [(.double (FP.i2d c1)), (.double (FP.l2d ((p2.toInt64) * ((t1 - f1).toInt64)))), (.double (FP.i2d f1))]) _
    refine XS.ddivS X15.here hx rfl (hb hby d3_24) rfl hn1 rfl ?_
    show GO p e below T15 (mkF m 25 #[.val (.ref a1), .val (.int p2)] [(.double (FP.ddiv (FP.l2d ((p2.toInt64) * ((t1 - f1).toInt64))) (FP.i2d c1))), (.double (FP.i2d f1))]) _
    refine XS.daddS X15.here hx rfl (hb hby d3_25) rfl hn2 rfl ?_
    show GO p e below T15 (mkF m 26 #[.val (.ref a1), .val (.int p2)] [(.double (FP.dadd (FP.i2d f1) (FP.ddiv (FP.l2d ((p2.toInt64) * ((t1 - f1).toInt64))) (FP.i2d c1))))]) _
    exact retOut X15 hx Bd.returns rfl (Or.inr (Or.inr (Or.inl ⟨rfl, rfl, _, rfl⟩))) (hb hby d3_26) hr
  · show Qrm_3 Z a1 p2 c1 f1 t1 h0 n0 _ T15.heap _
    rw [e15]
    exact ⟨rfl, N0, rfl⟩
def Qrm0 (Z : State) (p0 : Int32) (p1 : Int32) (p2 : Int32) (p3 : Int32) (h0 : Heap) (n0 : Nat) (v : Option Value) (h : Heap) (L : List Loc) : Prop := v = some (.int 1) ∧ Fr n0 L
theorem ef_rm0 (m : MethodId) (x0 : Int32) (x1 : Int32) (x2 : Int32) (x3 : Int32) : entryFrame m #[(.int x0), (.int x1), (.int x2), (.int x3)] maxLocals = mkF m 0 (la1 x0 x1 x2 x3) [] := by first | (simp [entryFrame, mkF, argsToLocals, Value.category, maxLocals]; done) | rfl
set_option maxRecDepth 65536 in
set_option maxHeartbeats 40000000 in
theorem rm0 (l : Launch) (Z : State) (a0 : Array Value) (hw : ∀ d ∈ tables_1, d.before a0 Z = true) (ws : List Jvm.Cond) (p0 : Int32) (p1 : Int32) (p2 : Int32) (p3 : Int32) (h0 : Heap) (n0 : Nat) (Z0 : n0 ≤ h0.size) :
    MetFree l x (head1 (Jvm.Cond.code x code maxLocals ret :: ws) room_1) (fun a U => a = #[(.int p0), (.int p1), (.int p2), (.int p3)] ∧ Z.Warmed39 U.vm ∧ U.heap = h0) (fun _ _ _ _ _ => True) (fun _ U o U' => ∃ v L, o = .returned v ∧ Qrm0 Z p0 p1 p2 p3 h0 n0 v U'.heap L ∧ FrameEnd U o U' L room_1.cells room_1.slots) := by
  refine MetFree.of_bodySF (plainFor_of_name pn_1) hisR ?_
  intro p e s m args below meth c s₁ Bd hml0 hP hK
  obtain ⟨rfl, hZ, hh⟩ := hP
  have hx := Bd.exec
  have hby := Bd.bytes
  have hml : c.maxLocals = 20 := hml0
  have hown : s.vm.findClass "com/example/occupancy/occupancy/scenario/EvenDeparturesDepartureSPinLaw" = some m.cls := findClass_of_methodNamed Bd.named
  have hnm := (name_of_methodNamed Bd.named Bd.method).1
  have X0 : Stand p l e room_1 s m #[(.int p0), (.int p1), (.int p2), (.int p3)] below meth c s₁ [] 0 0 := Stand.of_body Bd
  have e0 : s₁.heap = h0 := by rw [← hh, Bd.state]; rfl
  have N0 := Fr.nil n0
  have pre0 : ∀ t, Steps p.tables e below (s₁.setTop (mkF m 0 (la1 p0 p1 p2 p3) [])) t → Steps p.tables e below (s₁.setTop (entryFrame m #[(.int p0), (.int p1), (.int p2), (.int p3)] maxLocals)) t := fun t k => castTop (ef_rm0 m p0 p1 p2 p3) k
  obtain ⟨ff, hff⟩ : ∃ z, z = (p0 &&& (1073741823 : Int32)) := ⟨_, rfl⟩
  obtain ⟨ss, hss⟩ : ∃ z, z = (p1 &&& (1073741823 : Int32)) := ⟨_, rfl⟩
  obtain ⟨tt, htt⟩ : ∃ z, z = (ff + ss) := ⟨_, rfl⟩
  obtain ⟨cc, hcc⟩ : ∃ z, z = ((1 : Int32) + (p2 &&& (65535 : Int32))) := ⟨_, rfl⟩
  obtain ⟨own_cnz, own_cnzL, own_c0⟩ := own_count hcc
  obtain ⟨ii, hii⟩ : ∃ z, z = ((p3 &&& (2147483647 : Int32)) % cc) := ⟨_, rfl⟩
  obtain ⟨own_t, own_nn1, own_nn2, own_eq, own_lt⟩ := own_facts hff hss htt hcc hii
  obtain ⟨T16, h16, X16, e16, E16, A16, D16, U16, st16⟩ := newO X0 hx hZ hown (wd hw 3 rfl) (wd hw 4 rfl) (wd hw 5 rfl) e0 (g := (mkF m 36 (la6 p0 p1 p2 p3 ff ss tt cc ii) [])) rfl (hb hby at_36) (by decide) (by decide)
  obtain ⟨b16, g16⟩ : ∃ z, z = h0.size := ⟨_, rfl⟩
  rw [← g16] at A16 D16 U16 st16
  have sz16 : h0.size ≤ h16.size := E16.1
  have lt16 := A16.lt
  have f17 : Fld Z h16 b16 "com/example/occupancy/occupancy/scenario/EvenDepartures" "count" "I" (.int 0) := D16 (Or.inr (wd hw 13 rfl)) (ty := .int) (by decide)
  have f18 : Fld Z h16 b16 "com/example/occupancy/occupancy/scenario/EvenDepartures" "fromS" "I" (.int 0) := D16 (Or.inr (wd hw 15 rfl)) (ty := .int) (by decide)
  have f19 : Fld Z h16 b16 "com/example/occupancy/occupancy/scenario/EvenDepartures" "toS" "I" (.int 0) := D16 (Or.inr (wd hw 17 rfl)) (ty := .int) (by decide)
  -- pc 46: EvenDepartures.<init> by rm_1
  obtain ⟨_, _, ⟨T20, L20, k20, n20⟩, -, X20, ⟨Lc20, hQ20, l20, y20, z20⟩, st20⟩ := X16.specialBack hx (y := (⟨"com/example/occupancy/occupancy/scenario/EvenDepartures", "<init>", "(III)V"⟩ : MethodName)) rfl hown (mvT hZ (wd hw 6 rfl)) (mvT hZ (wd hw 7 rfl)) (mvT hZ (wd hw 8 rfl)) (by decide) (backOf (W := 1) (rm_1 l Z a0 hw [] b16 cc ff tt (.int 0) (.int 0) (.int 0) h16 n0 (by omega) A16 f17 f18 f19 (by first | assumption | decide | omega)) hZ (wd hw 8 rfl) (wd hw 5 rfl) (by decide) (by decide)) (g := (mkF m 46 (la6 p0 p1 p2 p3 ff ss tt cc ii) [(.int tt), (.int ff), (.int cc), (.ref b16), (.ref b16)])) rfl (by rw [hml]; rfl) (Steps.refl _) (a := b16) (argsL := [(.int cc), (.int ff), (.int tt)]) (rest := [(.ref b16)]) (lenOf pd_0 rfl) rfl (by show 2 * 0 + _ ≤ _; exact Nat.le_of_eq rfl) (hb hby at_46) (fun _ _ => ⟨rfl, e16, (by decide : 1 + 0 ≤ _), (by decide : 3 + 0 ≤ _)⟩)
  dsimp only [Pt.U, Pt.locs, Pt.cells, Pt.slots] at X20 l20 y20 z20 st20 hQ20
  subst l20 y20 z20
  obtain ⟨h20, e20⟩ : ∃ z, T20.heap = z := ⟨_, rfl⟩
  rw [e20] at hQ20
  obtain ⟨rfl, N20q, K20, p20_0, p20_1, p20_2, p20_3⟩ := hQ20
  have N20 := Fr.app N0 N20q
  have sz20 : h16.size ≤ h20.size := K20.1
  have lt20_0 := p20_0.lt
  -- pc 55: EvenDepartures.departureS by rm_3
  obtain ⟨cq21, kq21, q21a, q21b, q21c⟩ := isOf hZ e20 p20_0
  obtain ⟨_, _, ⟨T21, L21, k21, n21⟩, -, X21, ⟨Lc21, hQ21, l21, y21, z21⟩, st21⟩ := X20.virtualBack hx (y := (⟨"com/example/occupancy/occupancy/scenario/EvenDepartures", "departureS", "(I)D"⟩ : MethodName)) (z := (⟨"com/example/occupancy/occupancy/scenario/EvenDepartures", "departureS", "(I)D"⟩ : MethodName)) hown (mvT hZ (wd hw 18 rfl)) (mvT hZ (wd hw 19 rfl)) (notFace_of_selects (args := #[]) (mvT hZ (wd hw 21 rfl))) (mvT hZ (wd hw 21 rfl)) (mvT hZ (wd hw 20 rfl)) (by decide) (backOf (W := 0) (rm_3 l Z a0 hw [] b16 ii cc ff tt h20 n0 (by omega) p20_1 p20_2 p20_3 own_nn1 own_nn2) hZ (wd hw 22 rfl) (wd hw 5 rfl) (by decide) (by decide)) q21a q21c (g := (mkF m 55 (la7 p0 p1 p2 p3 ff ss tt cc ii b16) [(.int ii), (.ref b16)])) rfl (by rw [hml]; rfl) (Steps.refl _) (argsL := [(.int ii)]) (rest := []) (lenOf pd_1 rfl) rfl (by show 2 * 0 + _ ≤ _; exact Nat.le_of_eq rfl) (hb hby at_55) (fun _ _ => ⟨rfl, e20, (by decide : 1 + 0 ≤ _), (by decide : 3 + 0 ≤ _)⟩)
  dsimp only [Pt.U, Pt.locs, Pt.cells, Pt.slots] at X21 l21 y21 z21 st21 hQ21
  subst l21 y21 z21
  obtain ⟨rfl, N21q, e21⟩ := hQ21
  have N21 := Fr.app N20 N21q
  have pre22 : ∀ t, Steps p.tables e below (T21.setTop (mkF m 98 (la12 p0 p1 p2 p3 ff ss tt cc ii b16 (FP.dadd (FP.i2d ff) (FP.ddiv (FP.l2d ((ii.toInt64) * ((tt - ff).toInt64))) (FP.i2d cc))) ((ii.toInt64) * (ss.toInt64)) (((ii.toInt64) * (ss.toInt64)) / (cc.toInt64)) (((ii.toInt64) * (ss.toInt64)) - (((ii.toInt64) * (ss.toInt64)) / (cc.toInt64)) * (cc.toInt64)) (FP.l2d ((ff.toInt64) + (((ii.toInt64) * (ss.toInt64)) / (cc.toInt64))))) [(.int (lcmpW (((ii.toInt64) * (ss.toInt64)) - (((ii.toInt64) * (ss.toInt64)) / (cc.toInt64)) * (cc.toInt64)) (0 : Int64)))])) t → Steps p.tables e below (s₁.setTop (entryFrame m #[(.int p0), (.int p1), (.int p2), (.int p3)] maxLocals)) t := by
    intro t kt
    refine pre0 t ?_
    show GO p e below s₁ (mkF m 0 (la1 p0 p1 p2 p3) []) _
    refine XS.iloadN X0.here hx rfl (hb hby at_0) rfl ?_
    show GO p e below s₁ (mkF m 1 (la1 p0 p1 p2 p3) [(.int p0)]) _
    refine X0.ldcInt hx hown (mvT hZ (wd hw 0 rfl)) (g := (mkF m 1 (la1 p0 p1 p2 p3) [(.int p0)])) rfl (hb hby at_1) _ ?_
    show GO p e below s₁ (mkF m 3 (la1 p0 p1 p2 p3) [(.int 1073741823), (.int p0)]) _
    refine XS.iand X0.here hx rfl (hb hby at_3) rfl ?_
    show GO p e below s₁ (mkF m 4 (la1 p0 p1 p2 p3) [(.int (p0 &&& (1073741823 : Int32)))]) _
    refine XS.istore X0.here hx rfl (hb hby at_4) rfl (l' := (la2 p0 p1 p2 p3 (p0 &&& (1073741823 : Int32)))) rfl ?_
    show GO p e below s₁ (mkF m 6 (la2 p0 p1 p2 p3 (p0 &&& (1073741823 : Int32))) []) _
    refine XS.iloadN X0.here hx rfl (hb hby at_6) rfl ?_
    show GO p e below s₁ (mkF m 7 (la2 p0 p1 p2 p3 (p0 &&& (1073741823 : Int32))) [(.int p1)]) _
    refine X0.ldcInt hx hown (mvT hZ (wd hw 0 rfl)) (g := (mkF m 7 (la2 p0 p1 p2 p3 (p0 &&& (1073741823 : Int32))) [(.int p1)])) rfl (hb hby at_7) _ ?_
    show GO p e below s₁ (mkF m 9 (la2 p0 p1 p2 p3 (p0 &&& (1073741823 : Int32))) [(.int 1073741823), (.int p1)]) _
    refine XS.iand X0.here hx rfl (hb hby at_9) rfl ?_
    show GO p e below s₁ (mkF m 10 (la2 p0 p1 p2 p3 (p0 &&& (1073741823 : Int32))) [(.int (p1 &&& (1073741823 : Int32)))]) _
    refine XS.istore X0.here hx rfl (hb hby at_10) rfl (l' := (la3 p0 p1 p2 p3 (p0 &&& (1073741823 : Int32)) (p1 &&& (1073741823 : Int32)))) rfl ?_
    show GO p e below s₁ (mkF m 12 (la3 p0 p1 p2 p3 (p0 &&& (1073741823 : Int32)) (p1 &&& (1073741823 : Int32))) []) _
    refine XS.iload X0.here hx rfl (hb hby at_12) rfl ?_
    show GO p e below s₁ (mkF m 14 (la3 p0 p1 p2 p3 (p0 &&& (1073741823 : Int32)) (p1 &&& (1073741823 : Int32))) [(.int (p0 &&& (1073741823 : Int32)))]) _
    refine XS.iload X0.here hx rfl (hb hby at_14) rfl ?_
    show GO p e below s₁ (mkF m 16 (la3 p0 p1 p2 p3 (p0 &&& (1073741823 : Int32)) (p1 &&& (1073741823 : Int32))) [(.int (p1 &&& (1073741823 : Int32))), (.int (p0 &&& (1073741823 : Int32)))]) _
    refine XS.iadd X0.here hx rfl (hb hby at_16) rfl ?_
    show GO p e below s₁ (mkF m 17 (la3 p0 p1 p2 p3 (p0 &&& (1073741823 : Int32)) (p1 &&& (1073741823 : Int32))) [(.int ((p0 &&& (1073741823 : Int32)) + (p1 &&& (1073741823 : Int32))))]) _
    refine XS.istore X0.here hx rfl (hb hby at_17) rfl (l' := (la4 p0 p1 p2 p3 (p0 &&& (1073741823 : Int32)) (p1 &&& (1073741823 : Int32)) ((p0 &&& (1073741823 : Int32)) + (p1 &&& (1073741823 : Int32))))) rfl ?_
    show GO p e below s₁ (mkF m 19 (la4 p0 p1 p2 p3 (p0 &&& (1073741823 : Int32)) (p1 &&& (1073741823 : Int32)) ((p0 &&& (1073741823 : Int32)) + (p1 &&& (1073741823 : Int32)))) []) _
    refine XS.iconst X0.here hx rfl (hb hby at_19) ?_
    show GO p e below s₁ (mkF m 20 (la4 p0 p1 p2 p3 (p0 &&& (1073741823 : Int32)) (p1 &&& (1073741823 : Int32)) ((p0 &&& (1073741823 : Int32)) + (p1 &&& (1073741823 : Int32)))) [(.int 1)]) _
    refine XS.iloadN X0.here hx rfl (hb hby at_20) rfl ?_
    show GO p e below s₁ (mkF m 21 (la4 p0 p1 p2 p3 (p0 &&& (1073741823 : Int32)) (p1 &&& (1073741823 : Int32)) ((p0 &&& (1073741823 : Int32)) + (p1 &&& (1073741823 : Int32)))) [(.int p2), (.int 1)]) _
    refine X0.ldcInt hx hown (mvT hZ (wd hw 1 rfl)) (g := (mkF m 21 (la4 p0 p1 p2 p3 (p0 &&& (1073741823 : Int32)) (p1 &&& (1073741823 : Int32)) ((p0 &&& (1073741823 : Int32)) + (p1 &&& (1073741823 : Int32)))) [(.int p2), (.int 1)])) rfl (hb hby at_21) _ ?_
    show GO p e below s₁ (mkF m 23 (la4 p0 p1 p2 p3 (p0 &&& (1073741823 : Int32)) (p1 &&& (1073741823 : Int32)) ((p0 &&& (1073741823 : Int32)) + (p1 &&& (1073741823 : Int32)))) [(.int 65535), (.int p2), (.int 1)]) _
    refine XS.iand X0.here hx rfl (hb hby at_23) rfl ?_
    show GO p e below s₁ (mkF m 24 (la4 p0 p1 p2 p3 (p0 &&& (1073741823 : Int32)) (p1 &&& (1073741823 : Int32)) ((p0 &&& (1073741823 : Int32)) + (p1 &&& (1073741823 : Int32)))) [(.int (p2 &&& (65535 : Int32))), (.int 1)]) _
    refine XS.iadd X0.here hx rfl (hb hby at_24) rfl ?_
    show GO p e below s₁ (mkF m 25 (la4 p0 p1 p2 p3 (p0 &&& (1073741823 : Int32)) (p1 &&& (1073741823 : Int32)) ((p0 &&& (1073741823 : Int32)) + (p1 &&& (1073741823 : Int32)))) [(.int ((1 : Int32) + (p2 &&& (65535 : Int32))))]) _
    refine XS.istore X0.here hx rfl (hb hby at_25) rfl (l' := (la5 p0 p1 p2 p3 (p0 &&& (1073741823 : Int32)) (p1 &&& (1073741823 : Int32)) ((p0 &&& (1073741823 : Int32)) + (p1 &&& (1073741823 : Int32))) ((1 : Int32) + (p2 &&& (65535 : Int32))))) rfl ?_
    rw [← hff]
    rw [← hss]
    rw [← htt]
    rw [← hcc]
    show GO p e below s₁ (mkF m 27 (la5 p0 p1 p2 p3 ff ss tt cc) []) _
    refine XS.iloadN X0.here hx rfl (hb hby at_27) rfl ?_
    show GO p e below s₁ (mkF m 28 (la5 p0 p1 p2 p3 ff ss tt cc) [(.int p3)]) _
    refine X0.ldcInt hx hown (mvT hZ (wd hw 2 rfl)) (g := (mkF m 28 (la5 p0 p1 p2 p3 ff ss tt cc) [(.int p3)])) rfl (hb hby at_28) _ ?_
    show GO p e below s₁ (mkF m 30 (la5 p0 p1 p2 p3 ff ss tt cc) [(.int 2147483647), (.int p3)]) _
    refine XS.iand X0.here hx rfl (hb hby at_30) rfl ?_
    show GO p e below s₁ (mkF m 31 (la5 p0 p1 p2 p3 ff ss tt cc) [(.int (p3 &&& (2147483647 : Int32)))]) _
    refine XS.iload X0.here hx rfl (hb hby at_31) rfl ?_
    show GO p e below s₁ (mkF m 33 (la5 p0 p1 p2 p3 ff ss tt cc) [(.int cc), (.int (p3 &&& (2147483647 : Int32)))]) _
    refine iremM X0 hx rfl (hb hby at_33) rfl own_cnz ?_
    show GO p e below s₁ (mkF m 34 (la5 p0 p1 p2 p3 ff ss tt cc) [(.int ((p3 &&& (2147483647 : Int32)) % cc))]) _
    refine XS.istore X0.here hx rfl (hb hby at_34) rfl (l' := (la6 p0 p1 p2 p3 ff ss tt cc ((p3 &&& (2147483647 : Int32)) % cc))) rfl ?_
    rw [← hii]
    show GO p e below s₁ (mkF m 36 (la6 p0 p1 p2 p3 ff ss tt cc ii) []) _
    refine st16 _ ?_
    show GO p e below T16 (mkF m 39 (la6 p0 p1 p2 p3 ff ss tt cc ii) [(.ref b16)]) _
    refine XS.dup X16.here hx rfl (hb hby at_39) rfl rfl ?_
    show GO p e below T16 (mkF m 40 (la6 p0 p1 p2 p3 ff ss tt cc ii) [(.ref b16), (.ref b16)]) _
    refine XS.iload X16.here hx rfl (hb hby at_40) rfl ?_
    show GO p e below T16 (mkF m 42 (la6 p0 p1 p2 p3 ff ss tt cc ii) [(.int cc), (.ref b16), (.ref b16)]) _
    refine XS.iload X16.here hx rfl (hb hby at_42) rfl ?_
    show GO p e below T16 (mkF m 44 (la6 p0 p1 p2 p3 ff ss tt cc ii) [(.int ff), (.int cc), (.ref b16), (.ref b16)]) _
    refine XS.iload X16.here hx rfl (hb hby at_44) rfl ?_
    show GO p e below T16 (mkF m 46 (la6 p0 p1 p2 p3 ff ss tt cc ii) [(.int tt), (.int ff), (.int cc), (.ref b16), (.ref b16)]) _
    refine st20.trans ?_
    show GO p e below T20 (mkF m 49 (la6 p0 p1 p2 p3 ff ss tt cc ii) [(.ref b16)]) _
    refine XS.astore X20.here hx rfl (hb hby at_49) rfl rfl (l' := (la7 p0 p1 p2 p3 ff ss tt cc ii b16)) rfl ?_
    show GO p e below T20 (mkF m 51 (la7 p0 p1 p2 p3 ff ss tt cc ii b16) []) _
    refine XS.aload X20.here hx rfl (hb hby at_51) rfl rfl ?_
    show GO p e below T20 (mkF m 53 (la7 p0 p1 p2 p3 ff ss tt cc ii b16) [(.ref b16)]) _
    refine XS.iload X20.here hx rfl (hb hby at_53) rfl ?_
    show GO p e below T20 (mkF m 55 (la7 p0 p1 p2 p3 ff ss tt cc ii b16) [(.int ii), (.ref b16)]) _
    refine st21.trans ?_
    show GO p e below T21 (mkF m 58 (la7 p0 p1 p2 p3 ff ss tt cc ii b16) [(.double (FP.dadd (FP.i2d ff) (FP.ddiv (FP.l2d ((ii.toInt64) * ((tt - ff).toInt64))) (FP.i2d cc))))]) _
    refine XS.dstore X21.here hx rfl (hb hby at_58) rfl (l' := (la8 p0 p1 p2 p3 ff ss tt cc ii b16 (FP.dadd (FP.i2d ff) (FP.ddiv (FP.l2d ((ii.toInt64) * ((tt - ff).toInt64))) (FP.i2d cc))))) rfl ?_
    show GO p e below T21 (mkF m 60 (la8 p0 p1 p2 p3 ff ss tt cc ii b16 (FP.dadd (FP.i2d ff) (FP.ddiv (FP.l2d ((ii.toInt64) * ((tt - ff).toInt64))) (FP.i2d cc)))) []) _
    refine XS.iload X21.here hx rfl (hb hby at_60) rfl ?_
    show GO p e below T21 (mkF m 62 (la8 p0 p1 p2 p3 ff ss tt cc ii b16 (FP.dadd (FP.i2d ff) (FP.ddiv (FP.l2d ((ii.toInt64) * ((tt - ff).toInt64))) (FP.i2d cc)))) [(.int ii)]) _
    refine XS.i2l X21.here hx rfl (hb hby at_62) rfl ?_
    show GO p e below T21 (mkF m 63 (la8 p0 p1 p2 p3 ff ss tt cc ii b16 (FP.dadd (FP.i2d ff) (FP.ddiv (FP.l2d ((ii.toInt64) * ((tt - ff).toInt64))) (FP.i2d cc)))) [(.long (ii.toInt64))]) _
    refine XS.iload X21.here hx rfl (hb hby at_63) rfl ?_
    show GO p e below T21 (mkF m 65 (la8 p0 p1 p2 p3 ff ss tt cc ii b16 (FP.dadd (FP.i2d ff) (FP.ddiv (FP.l2d ((ii.toInt64) * ((tt - ff).toInt64))) (FP.i2d cc)))) [(.int ss), (.long (ii.toInt64))]) _
    refine XS.i2l X21.here hx rfl (hb hby at_65) rfl ?_
    show GO p e below T21 (mkF m 66 (la8 p0 p1 p2 p3 ff ss tt cc ii b16 (FP.dadd (FP.i2d ff) (FP.ddiv (FP.l2d ((ii.toInt64) * ((tt - ff).toInt64))) (FP.i2d cc)))) [(.long (ss.toInt64)), (.long (ii.toInt64))]) _
    refine XS.lmul X21.here hx rfl (hb hby at_66) rfl ?_
    show GO p e below T21 (mkF m 67 (la8 p0 p1 p2 p3 ff ss tt cc ii b16 (FP.dadd (FP.i2d ff) (FP.ddiv (FP.l2d ((ii.toInt64) * ((tt - ff).toInt64))) (FP.i2d cc)))) [(.long ((ii.toInt64) * (ss.toInt64)))]) _
    refine XS.lstore X21.here hx rfl (hb hby at_67) rfl (l' := (la9 p0 p1 p2 p3 ff ss tt cc ii b16 (FP.dadd (FP.i2d ff) (FP.ddiv (FP.l2d ((ii.toInt64) * ((tt - ff).toInt64))) (FP.i2d cc))) ((ii.toInt64) * (ss.toInt64)))) rfl ?_
    show GO p e below T21 (mkF m 69 (la9 p0 p1 p2 p3 ff ss tt cc ii b16 (FP.dadd (FP.i2d ff) (FP.ddiv (FP.l2d ((ii.toInt64) * ((tt - ff).toInt64))) (FP.i2d cc))) ((ii.toInt64) * (ss.toInt64))) []) _
    refine XS.lload X21.here hx rfl (hb hby at_69) rfl ?_
    show GO p e below T21 (mkF m 71 (la9 p0 p1 p2 p3 ff ss tt cc ii b16 (FP.dadd (FP.i2d ff) (FP.ddiv (FP.l2d ((ii.toInt64) * ((tt - ff).toInt64))) (FP.i2d cc))) ((ii.toInt64) * (ss.toInt64))) [(.long ((ii.toInt64) * (ss.toInt64)))]) _
    refine XS.iload X21.here hx rfl (hb hby at_71) rfl ?_
    show GO p e below T21 (mkF m 73 (la9 p0 p1 p2 p3 ff ss tt cc ii b16 (FP.dadd (FP.i2d ff) (FP.ddiv (FP.l2d ((ii.toInt64) * ((tt - ff).toInt64))) (FP.i2d cc))) ((ii.toInt64) * (ss.toInt64))) [(.int cc), (.long ((ii.toInt64) * (ss.toInt64)))]) _
    refine XS.i2l X21.here hx rfl (hb hby at_73) rfl ?_
    show GO p e below T21 (mkF m 74 (la9 p0 p1 p2 p3 ff ss tt cc ii b16 (FP.dadd (FP.i2d ff) (FP.ddiv (FP.l2d ((ii.toInt64) * ((tt - ff).toInt64))) (FP.i2d cc))) ((ii.toInt64) * (ss.toInt64))) [(.long (cc.toInt64)), (.long ((ii.toInt64) * (ss.toInt64)))]) _
    refine XS.ldiv X21.here hx rfl (hb hby at_74) rfl own_cnzL ?_
    show GO p e below T21 (mkF m 75 (la9 p0 p1 p2 p3 ff ss tt cc ii b16 (FP.dadd (FP.i2d ff) (FP.ddiv (FP.l2d ((ii.toInt64) * ((tt - ff).toInt64))) (FP.i2d cc))) ((ii.toInt64) * (ss.toInt64))) [(.long (((ii.toInt64) * (ss.toInt64)) / (cc.toInt64)))]) _
    refine XS.lstore X21.here hx rfl (hb hby at_75) rfl (l' := (la10 p0 p1 p2 p3 ff ss tt cc ii b16 (FP.dadd (FP.i2d ff) (FP.ddiv (FP.l2d ((ii.toInt64) * ((tt - ff).toInt64))) (FP.i2d cc))) ((ii.toInt64) * (ss.toInt64)) (((ii.toInt64) * (ss.toInt64)) / (cc.toInt64)))) rfl ?_
    show GO p e below T21 (mkF m 77 (la10 p0 p1 p2 p3 ff ss tt cc ii b16 (FP.dadd (FP.i2d ff) (FP.ddiv (FP.l2d ((ii.toInt64) * ((tt - ff).toInt64))) (FP.i2d cc))) ((ii.toInt64) * (ss.toInt64)) (((ii.toInt64) * (ss.toInt64)) / (cc.toInt64))) []) _
    refine XS.lload X21.here hx rfl (hb hby at_77) rfl ?_
    show GO p e below T21 (mkF m 79 (la10 p0 p1 p2 p3 ff ss tt cc ii b16 (FP.dadd (FP.i2d ff) (FP.ddiv (FP.l2d ((ii.toInt64) * ((tt - ff).toInt64))) (FP.i2d cc))) ((ii.toInt64) * (ss.toInt64)) (((ii.toInt64) * (ss.toInt64)) / (cc.toInt64))) [(.long ((ii.toInt64) * (ss.toInt64)))]) _
    refine XS.iload X21.here hx rfl (hb hby at_79) rfl ?_
    show GO p e below T21 (mkF m 81 (la10 p0 p1 p2 p3 ff ss tt cc ii b16 (FP.dadd (FP.i2d ff) (FP.ddiv (FP.l2d ((ii.toInt64) * ((tt - ff).toInt64))) (FP.i2d cc))) ((ii.toInt64) * (ss.toInt64)) (((ii.toInt64) * (ss.toInt64)) / (cc.toInt64))) [(.int cc), (.long ((ii.toInt64) * (ss.toInt64)))]) _
    refine XS.i2l X21.here hx rfl (hb hby at_81) rfl ?_
    show GO p e below T21 (mkF m 82 (la10 p0 p1 p2 p3 ff ss tt cc ii b16 (FP.dadd (FP.i2d ff) (FP.ddiv (FP.l2d ((ii.toInt64) * ((tt - ff).toInt64))) (FP.i2d cc))) ((ii.toInt64) * (ss.toInt64)) (((ii.toInt64) * (ss.toInt64)) / (cc.toInt64))) [(.long (cc.toInt64)), (.long ((ii.toInt64) * (ss.toInt64)))]) _
    refine XS.lrem X21.here hx rfl (hb hby at_82) rfl own_cnzL ?_
    show GO p e below T21 (mkF m 83 (la10 p0 p1 p2 p3 ff ss tt cc ii b16 (FP.dadd (FP.i2d ff) (FP.ddiv (FP.l2d ((ii.toInt64) * ((tt - ff).toInt64))) (FP.i2d cc))) ((ii.toInt64) * (ss.toInt64)) (((ii.toInt64) * (ss.toInt64)) / (cc.toInt64))) [(.long (((ii.toInt64) * (ss.toInt64)) - (((ii.toInt64) * (ss.toInt64)) / (cc.toInt64)) * (cc.toInt64)))]) _
    refine XS.lstore X21.here hx rfl (hb hby at_83) rfl (l' := (la11 p0 p1 p2 p3 ff ss tt cc ii b16 (FP.dadd (FP.i2d ff) (FP.ddiv (FP.l2d ((ii.toInt64) * ((tt - ff).toInt64))) (FP.i2d cc))) ((ii.toInt64) * (ss.toInt64)) (((ii.toInt64) * (ss.toInt64)) / (cc.toInt64)) (((ii.toInt64) * (ss.toInt64)) - (((ii.toInt64) * (ss.toInt64)) / (cc.toInt64)) * (cc.toInt64)))) rfl ?_
    show GO p e below T21 (mkF m 85 (la11 p0 p1 p2 p3 ff ss tt cc ii b16 (FP.dadd (FP.i2d ff) (FP.ddiv (FP.l2d ((ii.toInt64) * ((tt - ff).toInt64))) (FP.i2d cc))) ((ii.toInt64) * (ss.toInt64)) (((ii.toInt64) * (ss.toInt64)) / (cc.toInt64)) (((ii.toInt64) * (ss.toInt64)) - (((ii.toInt64) * (ss.toInt64)) / (cc.toInt64)) * (cc.toInt64))) []) _
    refine XS.iload X21.here hx rfl (hb hby at_85) rfl ?_
    show GO p e below T21 (mkF m 87 (la11 p0 p1 p2 p3 ff ss tt cc ii b16 (FP.dadd (FP.i2d ff) (FP.ddiv (FP.l2d ((ii.toInt64) * ((tt - ff).toInt64))) (FP.i2d cc))) ((ii.toInt64) * (ss.toInt64)) (((ii.toInt64) * (ss.toInt64)) / (cc.toInt64)) (((ii.toInt64) * (ss.toInt64)) - (((ii.toInt64) * (ss.toInt64)) / (cc.toInt64)) * (cc.toInt64))) [(.int ff)]) _
    refine XS.i2l X21.here hx rfl (hb hby at_87) rfl ?_
    show GO p e below T21 (mkF m 88 (la11 p0 p1 p2 p3 ff ss tt cc ii b16 (FP.dadd (FP.i2d ff) (FP.ddiv (FP.l2d ((ii.toInt64) * ((tt - ff).toInt64))) (FP.i2d cc))) ((ii.toInt64) * (ss.toInt64)) (((ii.toInt64) * (ss.toInt64)) / (cc.toInt64)) (((ii.toInt64) * (ss.toInt64)) - (((ii.toInt64) * (ss.toInt64)) / (cc.toInt64)) * (cc.toInt64))) [(.long (ff.toInt64))]) _
    refine XS.lload X21.here hx rfl (hb hby at_88) rfl ?_
    show GO p e below T21 (mkF m 90 (la11 p0 p1 p2 p3 ff ss tt cc ii b16 (FP.dadd (FP.i2d ff) (FP.ddiv (FP.l2d ((ii.toInt64) * ((tt - ff).toInt64))) (FP.i2d cc))) ((ii.toInt64) * (ss.toInt64)) (((ii.toInt64) * (ss.toInt64)) / (cc.toInt64)) (((ii.toInt64) * (ss.toInt64)) - (((ii.toInt64) * (ss.toInt64)) / (cc.toInt64)) * (cc.toInt64))) [(.long (((ii.toInt64) * (ss.toInt64)) / (cc.toInt64))), (.long (ff.toInt64))]) _
    refine XS.ladd X21.here hx rfl (hb hby at_90) rfl ?_
    show GO p e below T21 (mkF m 91 (la11 p0 p1 p2 p3 ff ss tt cc ii b16 (FP.dadd (FP.i2d ff) (FP.ddiv (FP.l2d ((ii.toInt64) * ((tt - ff).toInt64))) (FP.i2d cc))) ((ii.toInt64) * (ss.toInt64)) (((ii.toInt64) * (ss.toInt64)) / (cc.toInt64)) (((ii.toInt64) * (ss.toInt64)) - (((ii.toInt64) * (ss.toInt64)) / (cc.toInt64)) * (cc.toInt64))) [(.long ((ff.toInt64) + (((ii.toInt64) * (ss.toInt64)) / (cc.toInt64))))]) _
    refine XS.l2dS X21.here hx rfl (hb hby at_91) rfl rfl ?_
    show GO p e below T21 (mkF m 92 (la11 p0 p1 p2 p3 ff ss tt cc ii b16 (FP.dadd (FP.i2d ff) (FP.ddiv (FP.l2d ((ii.toInt64) * ((tt - ff).toInt64))) (FP.i2d cc))) ((ii.toInt64) * (ss.toInt64)) (((ii.toInt64) * (ss.toInt64)) / (cc.toInt64)) (((ii.toInt64) * (ss.toInt64)) - (((ii.toInt64) * (ss.toInt64)) / (cc.toInt64)) * (cc.toInt64))) [(.double (FP.l2d ((ff.toInt64) + (((ii.toInt64) * (ss.toInt64)) / (cc.toInt64)))))]) _
    refine XS.dstore X21.here hx rfl (hb hby at_92) rfl (l' := (la12 p0 p1 p2 p3 ff ss tt cc ii b16 (FP.dadd (FP.i2d ff) (FP.ddiv (FP.l2d ((ii.toInt64) * ((tt - ff).toInt64))) (FP.i2d cc))) ((ii.toInt64) * (ss.toInt64)) (((ii.toInt64) * (ss.toInt64)) / (cc.toInt64)) (((ii.toInt64) * (ss.toInt64)) - (((ii.toInt64) * (ss.toInt64)) / (cc.toInt64)) * (cc.toInt64)) (FP.l2d ((ff.toInt64) + (((ii.toInt64) * (ss.toInt64)) / (cc.toInt64)))))) rfl ?_
    show GO p e below T21 (mkF m 94 (la12 p0 p1 p2 p3 ff ss tt cc ii b16 (FP.dadd (FP.i2d ff) (FP.ddiv (FP.l2d ((ii.toInt64) * ((tt - ff).toInt64))) (FP.i2d cc))) ((ii.toInt64) * (ss.toInt64)) (((ii.toInt64) * (ss.toInt64)) / (cc.toInt64)) (((ii.toInt64) * (ss.toInt64)) - (((ii.toInt64) * (ss.toInt64)) / (cc.toInt64)) * (cc.toInt64)) (FP.l2d ((ff.toInt64) + (((ii.toInt64) * (ss.toInt64)) / (cc.toInt64))))) []) _
    refine XS.lload X21.here hx rfl (hb hby at_94) rfl ?_
    show GO p e below T21 (mkF m 96 (la12 p0 p1 p2 p3 ff ss tt cc ii b16 (FP.dadd (FP.i2d ff) (FP.ddiv (FP.l2d ((ii.toInt64) * ((tt - ff).toInt64))) (FP.i2d cc))) ((ii.toInt64) * (ss.toInt64)) (((ii.toInt64) * (ss.toInt64)) / (cc.toInt64)) (((ii.toInt64) * (ss.toInt64)) - (((ii.toInt64) * (ss.toInt64)) / (cc.toInt64)) * (cc.toInt64)) (FP.l2d ((ff.toInt64) + (((ii.toInt64) * (ss.toInt64)) / (cc.toInt64))))) [(.long (((ii.toInt64) * (ss.toInt64)) - (((ii.toInt64) * (ss.toInt64)) / (cc.toInt64)) * (cc.toInt64)))]) _
    refine XS.lconst X21.here hx rfl (hb hby at_96) ?_
    show GO p e below T21 (mkF m 97 (la12 p0 p1 p2 p3 ff ss tt cc ii b16 (FP.dadd (FP.i2d ff) (FP.ddiv (FP.l2d ((ii.toInt64) * ((tt - ff).toInt64))) (FP.i2d cc))) ((ii.toInt64) * (ss.toInt64)) (((ii.toInt64) * (ss.toInt64)) / (cc.toInt64)) (((ii.toInt64) * (ss.toInt64)) - (((ii.toInt64) * (ss.toInt64)) / (cc.toInt64)) * (cc.toInt64)) (FP.l2d ((ff.toInt64) + (((ii.toInt64) * (ss.toInt64)) / (cc.toInt64))))) [(.long (0 : Int64)), (.long (((ii.toInt64) * (ss.toInt64)) - (((ii.toInt64) * (ss.toInt64)) / (cc.toInt64)) * (cc.toInt64)))]) _
    refine XS.lcmp X21.here hx rfl (hb hby at_97) rfl ?_
    exact kt
  by_cases hb23 : (((ii.toInt64) * (ss.toInt64)) - (((ii.toInt64) * (ss.toInt64)) / (cc.toInt64)) * (cc.toInt64)) = (0 : Int64)
  · obtain ⟨fs, hr, hrun, hended, hW, hsame⟩ := X21.leave (v := some (.int 1)) (fun h => by rw [Bd.returns] at h; cases h)
    refine ⟨_, _, pre22 _ ?_, hrun, hended, _, _, rfl, ?_, ⟨_, rfl⟩, hW, hsame.mono (by decide) (by decide)⟩
    · show GO p e below T21 (mkF m 98 (la12 p0 p1 p2 p3 ff ss tt cc ii b16 (FP.dadd (FP.i2d ff) (FP.ddiv (FP.l2d ((ii.toInt64) * ((tt - ff).toInt64))) (FP.i2d cc))) ((ii.toInt64) * (ss.toInt64)) (((ii.toInt64) * (ss.toInt64)) / (cc.toInt64)) (((ii.toInt64) * (ss.toInt64)) - (((ii.toInt64) * (ss.toInt64)) / (cc.toInt64)) * (cc.toInt64)) (FP.l2d ((ff.toInt64) + (((ii.toInt64) * (ss.toInt64)) / (cc.toInt64))))) [(.int (lcmpW (((ii.toInt64) * (ss.toInt64)) - (((ii.toInt64) * (ss.toInt64)) / (cc.toInt64)) * (cc.toInt64)) (0 : Int64)))]) _
      refine XS.ifNo X21.here hx rfl (hb hby at_98) rfl ((if0 _ _).trans (teq ((lw_eq _ _).mpr hb23 : (lcmpW (((ii.toInt64) * (ss.toInt64)) - (((ii.toInt64) * (ss.toInt64)) / (cc.toInt64)) * (cc.toInt64)) (0 : Int64)) = (0 : Int32))).2) ?_
      show GO p e below T21 (mkF m 101 (la12 p0 p1 p2 p3 ff ss tt cc ii b16 (FP.dadd (FP.i2d ff) (FP.ddiv (FP.l2d ((ii.toInt64) * ((tt - ff).toInt64))) (FP.i2d cc))) ((ii.toInt64) * (ss.toInt64)) (((ii.toInt64) * (ss.toInt64)) / (cc.toInt64)) (((ii.toInt64) * (ss.toInt64)) - (((ii.toInt64) * (ss.toInt64)) / (cc.toInt64)) * (cc.toInt64)) (FP.l2d ((ff.toInt64) + (((ii.toInt64) * (ss.toInt64)) / (cc.toInt64))))) []) _
      refine XS.dload X21.here hx rfl (hb hby at_101) rfl ?_
      show GO p e below T21 (mkF m 103 (la12 p0 p1 p2 p3 ff ss tt cc ii b16 (FP.dadd (FP.i2d ff) (FP.ddiv (FP.l2d ((ii.toInt64) * ((tt - ff).toInt64))) (FP.i2d cc))) ((ii.toInt64) * (ss.toInt64)) (((ii.toInt64) * (ss.toInt64)) / (cc.toInt64)) (((ii.toInt64) * (ss.toInt64)) - (((ii.toInt64) * (ss.toInt64)) / (cc.toInt64)) * (cc.toInt64)) (FP.l2d ((ff.toInt64) + (((ii.toInt64) * (ss.toInt64)) / (cc.toInt64))))) [(.double (FP.dadd (FP.i2d ff) (FP.ddiv (FP.l2d ((ii.toInt64) * ((tt - ff).toInt64))) (FP.i2d cc))))]) _
      refine XS.dload X21.here hx rfl (hb hby at_103) rfl ?_
      show GO p e below T21 (mkF m 105 (la12 p0 p1 p2 p3 ff ss tt cc ii b16 (FP.dadd (FP.i2d ff) (FP.ddiv (FP.l2d ((ii.toInt64) * ((tt - ff).toInt64))) (FP.i2d cc))) ((ii.toInt64) * (ss.toInt64)) (((ii.toInt64) * (ss.toInt64)) / (cc.toInt64)) (((ii.toInt64) * (ss.toInt64)) - (((ii.toInt64) * (ss.toInt64)) / (cc.toInt64)) * (cc.toInt64)) (FP.l2d ((ff.toInt64) + (((ii.toInt64) * (ss.toInt64)) / (cc.toInt64))))) [(.double (FP.l2d ((ff.toInt64) + (((ii.toInt64) * (ss.toInt64)) / (cc.toInt64))))), (.double (FP.dadd (FP.i2d ff) (FP.ddiv (FP.l2d ((ii.toInt64) * ((tt - ff).toInt64))) (FP.i2d cc))))]) _
      refine XS.dcmpS X21.here hx rfl (hb hby at_105) rfl (own_eq hb23) ?_
      show GO p e below T21 (mkF m 106 (la12 p0 p1 p2 p3 ff ss tt cc ii b16 (FP.dadd (FP.i2d ff) (FP.ddiv (FP.l2d ((ii.toInt64) * ((tt - ff).toInt64))) (FP.i2d cc))) ((ii.toInt64) * (ss.toInt64)) (((ii.toInt64) * (ss.toInt64)) / (cc.toInt64)) (((ii.toInt64) * (ss.toInt64)) - (((ii.toInt64) * (ss.toInt64)) / (cc.toInt64)) * (cc.toInt64)) (FP.l2d ((ff.toInt64) + (((ii.toInt64) * (ss.toInt64)) / (cc.toInt64))))) [(.int 0)]) _
      refine XS.ifNo X21.here hx rfl (hb hby at_106) rfl ((if0 _ _).trans (teq (rfl : (0 : Int32) = (0 : Int32))).2) ?_
      show GO p e below T21 (mkF m 109 (la12 p0 p1 p2 p3 ff ss tt cc ii b16 (FP.dadd (FP.i2d ff) (FP.ddiv (FP.l2d ((ii.toInt64) * ((tt - ff).toInt64))) (FP.i2d cc))) ((ii.toInt64) * (ss.toInt64)) (((ii.toInt64) * (ss.toInt64)) / (cc.toInt64)) (((ii.toInt64) * (ss.toInt64)) - (((ii.toInt64) * (ss.toInt64)) / (cc.toInt64)) * (cc.toInt64)) (FP.l2d ((ff.toInt64) + (((ii.toInt64) * (ss.toInt64)) / (cc.toInt64))))) []) _
      refine XS.iconst X21.here hx rfl (hb hby at_109) ?_
      show GO p e below T21 (mkF m 110 (la12 p0 p1 p2 p3 ff ss tt cc ii b16 (FP.dadd (FP.i2d ff) (FP.ddiv (FP.l2d ((ii.toInt64) * ((tt - ff).toInt64))) (FP.i2d cc))) ((ii.toInt64) * (ss.toInt64)) (((ii.toInt64) * (ss.toInt64)) / (cc.toInt64)) (((ii.toInt64) * (ss.toInt64)) - (((ii.toInt64) * (ss.toInt64)) / (cc.toInt64)) * (cc.toInt64)) (FP.l2d ((ff.toInt64) + (((ii.toInt64) * (ss.toInt64)) / (cc.toInt64))))) [(.int 1)]) _
      refine XS.goto X21.here hx rfl (pc0 := 110) (pc' := 114) rfl (hb hby at_110) (by decide) (by decide) ?_
      show GO p e below T21 (mkF m 114 (la12 p0 p1 p2 p3 ff ss tt cc ii b16 (FP.dadd (FP.i2d ff) (FP.ddiv (FP.l2d ((ii.toInt64) * ((tt - ff).toInt64))) (FP.i2d cc))) ((ii.toInt64) * (ss.toInt64)) (((ii.toInt64) * (ss.toInt64)) / (cc.toInt64)) (((ii.toInt64) * (ss.toInt64)) - (((ii.toInt64) * (ss.toInt64)) / (cc.toInt64)) * (cc.toInt64)) (FP.l2d ((ff.toInt64) + (((ii.toInt64) * (ss.toInt64)) / (cc.toInt64))))) [(.int 1)]) _
      exact retN X21 hx (t := .boolean) Bd.returns (by simp) (hb hby at_114) hr
    · show Qrm0 Z p0 p1 p2 p3 h0 n0 _ T21.heap _
      rw [e21]
      exact ⟨rfl, N21⟩
  · obtain ⟨own_l1, own_l2, hn3⟩ := own_lt hb23
    obtain ⟨fs, hr, hrun, hended, hW, hsame⟩ := X21.leave (v := some (.int 1)) (fun h => by rw [Bd.returns] at h; cases h)
    refine ⟨_, _, pre22 _ ?_, hrun, hended, _, _, rfl, ?_, ⟨_, rfl⟩, hW, hsame.mono (by decide) (by decide)⟩
    · show GO p e below T21 (mkF m 98 (la12 p0 p1 p2 p3 ff ss tt cc ii b16 (FP.dadd (FP.i2d ff) (FP.ddiv (FP.l2d ((ii.toInt64) * ((tt - ff).toInt64))) (FP.i2d cc))) ((ii.toInt64) * (ss.toInt64)) (((ii.toInt64) * (ss.toInt64)) / (cc.toInt64)) (((ii.toInt64) * (ss.toInt64)) - (((ii.toInt64) * (ss.toInt64)) / (cc.toInt64)) * (cc.toInt64)) (FP.l2d ((ff.toInt64) + (((ii.toInt64) * (ss.toInt64)) / (cc.toInt64))))) [(.int (lcmpW (((ii.toInt64) * (ss.toInt64)) - (((ii.toInt64) * (ss.toInt64)) / (cc.toInt64)) * (cc.toInt64)) (0 : Int64)))]) _
      refine XS.ifYes X21.here hx rfl (pc0 := 98) (pc' := 115) rfl (hb hby at_98) rfl ((if0 _ _).trans (feq (fun q => hb23 ((lw_eq _ _).mp q) : ¬ ((lcmpW (((ii.toInt64) * (ss.toInt64)) - (((ii.toInt64) * (ss.toInt64)) / (cc.toInt64)) * (cc.toInt64)) (0 : Int64)) = (0 : Int32)))).2) (by decide) (by decide) ?_
      show GO p e below T21 (mkF m 115 (la12 p0 p1 p2 p3 ff ss tt cc ii b16 (FP.dadd (FP.i2d ff) (FP.ddiv (FP.l2d ((ii.toInt64) * ((tt - ff).toInt64))) (FP.i2d cc))) ((ii.toInt64) * (ss.toInt64)) (((ii.toInt64) * (ss.toInt64)) / (cc.toInt64)) (((ii.toInt64) * (ss.toInt64)) - (((ii.toInt64) * (ss.toInt64)) / (cc.toInt64)) * (cc.toInt64)) (FP.l2d ((ff.toInt64) + (((ii.toInt64) * (ss.toInt64)) / (cc.toInt64))))) []) _
      refine XS.dload X21.here hx rfl (hb hby at_115) rfl ?_
      show GO p e below T21 (mkF m 117 (la12 p0 p1 p2 p3 ff ss tt cc ii b16 (FP.dadd (FP.i2d ff) (FP.ddiv (FP.l2d ((ii.toInt64) * ((tt - ff).toInt64))) (FP.i2d cc))) ((ii.toInt64) * (ss.toInt64)) (((ii.toInt64) * (ss.toInt64)) / (cc.toInt64)) (((ii.toInt64) * (ss.toInt64)) - (((ii.toInt64) * (ss.toInt64)) / (cc.toInt64)) * (cc.toInt64)) (FP.l2d ((ff.toInt64) + (((ii.toInt64) * (ss.toInt64)) / (cc.toInt64))))) [(.double (FP.l2d ((ff.toInt64) + (((ii.toInt64) * (ss.toInt64)) / (cc.toInt64)))))]) _
      refine XS.dload X21.here hx rfl (hb hby at_117) rfl ?_
      show GO p e below T21 (mkF m 119 (la12 p0 p1 p2 p3 ff ss tt cc ii b16 (FP.dadd (FP.i2d ff) (FP.ddiv (FP.l2d ((ii.toInt64) * ((tt - ff).toInt64))) (FP.i2d cc))) ((ii.toInt64) * (ss.toInt64)) (((ii.toInt64) * (ss.toInt64)) / (cc.toInt64)) (((ii.toInt64) * (ss.toInt64)) - (((ii.toInt64) * (ss.toInt64)) / (cc.toInt64)) * (cc.toInt64)) (FP.l2d ((ff.toInt64) + (((ii.toInt64) * (ss.toInt64)) / (cc.toInt64))))) [(.double (FP.dadd (FP.i2d ff) (FP.ddiv (FP.l2d ((ii.toInt64) * ((tt - ff).toInt64))) (FP.i2d cc)))), (.double (FP.l2d ((ff.toInt64) + (((ii.toInt64) * (ss.toInt64)) / (cc.toInt64)))))]) _
      refine XS.dcmpS X21.here hx rfl (hb hby at_119) rfl own_l1 ?_
      show GO p e below T21 (mkF m 120 (la12 p0 p1 p2 p3 ff ss tt cc ii b16 (FP.dadd (FP.i2d ff) (FP.ddiv (FP.l2d ((ii.toInt64) * ((tt - ff).toInt64))) (FP.i2d cc))) ((ii.toInt64) * (ss.toInt64)) (((ii.toInt64) * (ss.toInt64)) / (cc.toInt64)) (((ii.toInt64) * (ss.toInt64)) - (((ii.toInt64) * (ss.toInt64)) / (cc.toInt64)) * (cc.toInt64)) (FP.l2d ((ff.toInt64) + (((ii.toInt64) * (ss.toInt64)) / (cc.toInt64))))) [(.int (-1))]) _
      refine XS.ifNo X21.here hx rfl (hb hby at_120) rfl ((if0 _ _).trans (tlt ((by decide) : (-1 : Int32) < (0 : Int32))).2.1) ?_
      show GO p e below T21 (mkF m 123 (la12 p0 p1 p2 p3 ff ss tt cc ii b16 (FP.dadd (FP.i2d ff) (FP.ddiv (FP.l2d ((ii.toInt64) * ((tt - ff).toInt64))) (FP.i2d cc))) ((ii.toInt64) * (ss.toInt64)) (((ii.toInt64) * (ss.toInt64)) / (cc.toInt64)) (((ii.toInt64) * (ss.toInt64)) - (((ii.toInt64) * (ss.toInt64)) / (cc.toInt64)) * (cc.toInt64)) (FP.l2d ((ff.toInt64) + (((ii.toInt64) * (ss.toInt64)) / (cc.toInt64))))) []) _
      refine XS.dload X21.here hx rfl (hb hby at_123) rfl ?_
      show GO p e below T21 (mkF m 125 (la12 p0 p1 p2 p3 ff ss tt cc ii b16 (FP.dadd (FP.i2d ff) (FP.ddiv (FP.l2d ((ii.toInt64) * ((tt - ff).toInt64))) (FP.i2d cc))) ((ii.toInt64) * (ss.toInt64)) (((ii.toInt64) * (ss.toInt64)) / (cc.toInt64)) (((ii.toInt64) * (ss.toInt64)) - (((ii.toInt64) * (ss.toInt64)) / (cc.toInt64)) * (cc.toInt64)) (FP.l2d ((ff.toInt64) + (((ii.toInt64) * (ss.toInt64)) / (cc.toInt64))))) [(.double (FP.dadd (FP.i2d ff) (FP.ddiv (FP.l2d ((ii.toInt64) * ((tt - ff).toInt64))) (FP.i2d cc))))]) _
      refine XS.dload X21.here hx rfl (hb hby at_125) rfl ?_
      show GO p e below T21 (mkF m 127 (la12 p0 p1 p2 p3 ff ss tt cc ii b16 (FP.dadd (FP.i2d ff) (FP.ddiv (FP.l2d ((ii.toInt64) * ((tt - ff).toInt64))) (FP.i2d cc))) ((ii.toInt64) * (ss.toInt64)) (((ii.toInt64) * (ss.toInt64)) / (cc.toInt64)) (((ii.toInt64) * (ss.toInt64)) - (((ii.toInt64) * (ss.toInt64)) / (cc.toInt64)) * (cc.toInt64)) (FP.l2d ((ff.toInt64) + (((ii.toInt64) * (ss.toInt64)) / (cc.toInt64))))) [(.double (FP.l2d ((ff.toInt64) + (((ii.toInt64) * (ss.toInt64)) / (cc.toInt64))))), (.double (FP.dadd (FP.i2d ff) (FP.ddiv (FP.l2d ((ii.toInt64) * ((tt - ff).toInt64))) (FP.i2d cc))))]) _
      refine XS.dconst1 X21.here hx rfl (hb hby at_127) rfl ?_
      show GO p e below T21 (mkF m 128 (la12 p0 p1 p2 p3 ff ss tt cc ii b16 (FP.dadd (FP.i2d ff) (FP.ddiv (FP.l2d ((ii.toInt64) * ((tt - ff).toInt64))) (FP.i2d cc))) ((ii.toInt64) * (ss.toInt64)) (((ii.toInt64) * (ss.toInt64)) / (cc.toInt64)) (((ii.toInt64) * (ss.toInt64)) - (((ii.toInt64) * (ss.toInt64)) / (cc.toInt64)) * (cc.toInt64)) (FP.l2d ((ff.toInt64) + (((ii.toInt64) * (ss.toInt64)) / (cc.toInt64))))) [(.double FP.dconst1), (.double (FP.l2d ((ff.toInt64) + (((ii.toInt64) * (ss.toInt64)) / (cc.toInt64))))), (.double (FP.dadd (FP.i2d ff) (FP.ddiv (FP.l2d ((ii.toInt64) * ((tt - ff).toInt64))) (FP.i2d cc))))]) _
      refine XS.daddS X21.here hx rfl (hb hby at_128) rfl hn3 rfl ?_
      show GO p e below T21 (mkF m 129 (la12 p0 p1 p2 p3 ff ss tt cc ii b16 (FP.dadd (FP.i2d ff) (FP.ddiv (FP.l2d ((ii.toInt64) * ((tt - ff).toInt64))) (FP.i2d cc))) ((ii.toInt64) * (ss.toInt64)) (((ii.toInt64) * (ss.toInt64)) / (cc.toInt64)) (((ii.toInt64) * (ss.toInt64)) - (((ii.toInt64) * (ss.toInt64)) / (cc.toInt64)) * (cc.toInt64)) (FP.l2d ((ff.toInt64) + (((ii.toInt64) * (ss.toInt64)) / (cc.toInt64))))) [(.double (FP.dadd (FP.l2d ((ff.toInt64) + (((ii.toInt64) * (ss.toInt64)) / (cc.toInt64)))) FP.dconst1)), (.double (FP.dadd (FP.i2d ff) (FP.ddiv (FP.l2d ((ii.toInt64) * ((tt - ff).toInt64))) (FP.i2d cc))))]) _
      refine XS.dcmpS X21.here hx rfl (hb hby at_129) rfl own_l2 ?_
      show GO p e below T21 (mkF m 130 (la12 p0 p1 p2 p3 ff ss tt cc ii b16 (FP.dadd (FP.i2d ff) (FP.ddiv (FP.l2d ((ii.toInt64) * ((tt - ff).toInt64))) (FP.i2d cc))) ((ii.toInt64) * (ss.toInt64)) (((ii.toInt64) * (ss.toInt64)) / (cc.toInt64)) (((ii.toInt64) * (ss.toInt64)) - (((ii.toInt64) * (ss.toInt64)) / (cc.toInt64)) * (cc.toInt64)) (FP.l2d ((ff.toInt64) + (((ii.toInt64) * (ss.toInt64)) / (cc.toInt64))))) [(.int (-1))]) _
      refine XS.ifNo X21.here hx rfl (hb hby at_130) rfl ((if0 _ _).trans (tlt ((by decide) : (-1 : Int32) < (0 : Int32))).2.1) ?_
      show GO p e below T21 (mkF m 133 (la12 p0 p1 p2 p3 ff ss tt cc ii b16 (FP.dadd (FP.i2d ff) (FP.ddiv (FP.l2d ((ii.toInt64) * ((tt - ff).toInt64))) (FP.i2d cc))) ((ii.toInt64) * (ss.toInt64)) (((ii.toInt64) * (ss.toInt64)) / (cc.toInt64)) (((ii.toInt64) * (ss.toInt64)) - (((ii.toInt64) * (ss.toInt64)) / (cc.toInt64)) * (cc.toInt64)) (FP.l2d ((ff.toInt64) + (((ii.toInt64) * (ss.toInt64)) / (cc.toInt64))))) []) _
      refine XS.iconst X21.here hx rfl (hb hby at_133) ?_
      show GO p e below T21 (mkF m 134 (la12 p0 p1 p2 p3 ff ss tt cc ii b16 (FP.dadd (FP.i2d ff) (FP.ddiv (FP.l2d ((ii.toInt64) * ((tt - ff).toInt64))) (FP.i2d cc))) ((ii.toInt64) * (ss.toInt64)) (((ii.toInt64) * (ss.toInt64)) / (cc.toInt64)) (((ii.toInt64) * (ss.toInt64)) - (((ii.toInt64) * (ss.toInt64)) / (cc.toInt64)) * (cc.toInt64)) (FP.l2d ((ff.toInt64) + (((ii.toInt64) * (ss.toInt64)) / (cc.toInt64))))) [(.int 1)]) _
      refine XS.goto X21.here hx rfl (pc0 := 134) (pc' := 138) rfl (hb hby at_134) (by decide) (by decide) ?_
      show GO p e below T21 (mkF m 138 (la12 p0 p1 p2 p3 ff ss tt cc ii b16 (FP.dadd (FP.i2d ff) (FP.ddiv (FP.l2d ((ii.toInt64) * ((tt - ff).toInt64))) (FP.i2d cc))) ((ii.toInt64) * (ss.toInt64)) (((ii.toInt64) * (ss.toInt64)) / (cc.toInt64)) (((ii.toInt64) * (ss.toInt64)) - (((ii.toInt64) * (ss.toInt64)) / (cc.toInt64)) * (cc.toInt64)) (FP.l2d ((ff.toInt64) + (((ii.toInt64) * (ss.toInt64)) / (cc.toInt64))))) [(.int 1)]) _
      exact retN X21 hx (t := .boolean) Bd.returns (by simp) (hb hby at_138) hr
    · show Qrm0 Z p0 p1 p2 p3 h0 n0 _ T21.heap _
      rw [e21]
      exact ⟨rfl, N21⟩
set_option maxRecDepth 65536 in
set_option maxHeartbeats 40000000 in
theorem comes_1 {Post : Tables → Env → Array Value → State → Outcome → State → Prop} (hpost : ∀ tb e args s v u, (limb_1_1.after args s (.returned v) u = true ∧ limb_1_2.after args s (.returned v) u = true ∧ True) → FrameEnd s (.returned v) u (Jvm.fieldLocs frame_1_writes args s ++ Jvm.arrayLocs frame_1_arrays args s ++ Jvm.staticLocs frame_1_statics s) 16 128 → Post tb e args s (.returned v) u) :
    ArmFor flags0 classFile x code maxLocals ret World_1 tables_1 room_1 Calls_1 rest_1 Pre_1 Post := by
  intro l hfl _ _ p e ha hc hk s m args below hf hA hF happ hP
  obtain ⟨hcalls, hrest, hpre⟩ := hP
  obtain ⟨-, -, -, hnamed, -, -, -, hat⟩ := (Spec.applies_iff hf).mp happ
  obtain ⟨hg, hn⟩ := and_e (Cond.before_iff.mp (show (Jvm.Cond.and given_1 narrow_1).before args s = true from hpre))
  obtain ⟨g0a, g0b⟩ := and_e hg
  obtain ⟨g1a, g1b⟩ := and_e g0b
  obtain ⟨g2a, g2b⟩ := and_e g1b
  obtain ⟨g3a, g3b⟩ := and_e g2b
  obtain ⟨w0, w1, w2, w3, rfl⟩ : ∃ w0 w1 w2 w3 : Value, args = #[w0, w1, w2, w3] := by
    have hs : args.size = 4 := by simpa [Cond.value, given_1] using g0a
    obtain ⟨L⟩ := args
    match L, hs with
    | [w0, w1, w2, w3], _ => exact ⟨w0, w1, w2, w3, rfl⟩
  have hw := fun d (hd : d ∈ tables_1) => atoms_spec (ws := Jvm.Cond.code x code maxLocals ret :: tables_1) hat d (List.mem_cons_of_mem _ hd)
  have hfit : Fit s := fun {y c} hc i hi => by
    obtain ⟨ha, rfl⟩ := Array.getElem?_eq_some_iff.mp hc
    have q := List.all_eq_true.mp ((Array.all_eq_true_iff_forall_mem.mp hF) _ (Array.getElem_mem ha)) i (List.mem_range.mpr hi)
    simpa [Array.getElem?_eq_getElem hi] using q
  obtain ⟨i0, ei0⟩ := is_v g1a
  obtain rfl : w0 = (.int i0) := Option.some.inj ei0
  obtain ⟨i1, ei1⟩ := is_v g2a
  obtain rfl : w1 = (.int i1) := Option.some.inj ei1
  obtain ⟨i2, ei2⟩ := is_v g3a
  obtain rfl : w2 = (.int i2) := Option.some.inj ei2
  obtain ⟨i3, ei3⟩ := is_v g3b
  obtain rfl : w3 = (.int i3) := Option.some.inj ei3
  obtain ⟨n, o, h1, h2, h3, _, L, rfl, ⟨rfl, N⟩, hq⟩ := rm0 l s _ hw tables_1 i0 i1 i2 i3 s.heap s.heap.size (Nat.le_refl _) p e ha hc hk s m _ below hf ((Spec.applies_iff_loose hf).mp happ).1 ⟨rfl, State.Warmed39.refl s, rfl⟩ trivial
  refine ⟨n, _, h1, h2, h3, hpost _ _ _ _ _ _ ⟨Cond.after_iff.mpr rfl, Cond.after_iff.mpr (eq_i res_at (Term.int_eval (1)) rfl), trivial⟩ ⟨hq.1, hq.2.1, (hq.2.2.sift fun y hy => Or.inr (N y hy)).mono (by decide) (by decide)⟩⟩
theorem main_1_1 : Claimed_1_1 := comes_1 fun _ _ _ _ _ _ h hF => ⟨h.1, hF⟩
theorem main_1_2 : Claimed_1_2 := comes_1 fun _ _ _ _ _ _ h hF => ⟨h.2.1, hF⟩
end Jvm.Pilot.@@N@@
namespace Jvm.Pilot.@@N@@
open Jvm Jvm.ClassFile Sem Op Lib Jvm.Free Jvm.Stand Jvm.Pilot.@@N@@.Jvm.D
/-! MADE BY PROGRAM (witnessworld.py) out of the Statement's table words and the real class files: 9 classes; the members and pool entries that the words name. The judged class is class 1, her method 1. -/
namespace start1
open Jvm.ClassFile
def u (s : String) : CpInfo := .utf8 (stringToUtf16 s)
/-- a pool by its gaps: so many unusable entries, then the entry; so many at the end -/
def gap : Nat → List CpInfo → List CpInfo
  | 0, r => r
  | n + 1, r => .unusable :: gap n r
def poolList (es : List (Nat × CpInfo)) (last : Nat) : List CpInfo := es.foldr (fun e r => gap e.1 (e.2 :: r)) (gap last [])
def pool (es : List (Nat × CpInfo)) (last : Nat) : Array CpInfo := ⟨poolList es last⟩
def fileOf (pool : Array CpInfo) (this : Nat) (attrs : Array Attribute := #[]) (ms : Array MethodInfo := #[]) (fl : Nat := 33) (sup : Nat := 0) (ifs : Array Nat := #[]) (fds : Array FieldInfo := #[]) : ClassFile where
  minorVersion := 0
  majorVersion := 65
  constantPool := pool
  accessFlags := fl
  thisClass := this
  superClass := sup
  interfaces := ifs
  fields := fds
  methods := ms
  attributes := attrs
def plain (name : String) (sup : Option ClassId) : Class where
  name := name
  kind := .ordinary
  loader := none
  accessFlags := 33
  super := sup
  interfaces := #[]
  cf := none
  fields := #[]
  methods := #[]
  instanceTypes := #[]
  staticTypes := #[]
  resolved := #[]
  callSites := []
  init := .initialized
  statics := none
  mirror := none

def pool0 : Array CpInfo := pool [(5, u "<init>"), (0, u "()V"), (1, .class_ 10), (1, u "java/lang/Object")] 113

def k0c0 : Code := { maxStack := 0, maxLocals := 1, code := object_method_1_code, exceptionTable := #[], attributes := #[] }
def k0m0 : Method := { name := "<init>", desc := "()V", sig := { parameters := [], returnType := none }, accessFlags := 1, code := some k0c0 }
/-- java/lang/Object -/
def k0 : Class := { plain "java/lang/Object" none with
  accessFlags := 33
  interfaces := #[]
  cf := some (fileOf pool0 8 #[] #[{ accessFlags := 1, nameIndex := 5, descriptorIndex := 6, attributes := #[] }] 33 0 #[] #[])
  fields := #[]
  methods := #[k0m0]
  instanceTypes := #[]
  staticTypes := #[]
  resolved := Array.replicate 124 none
  statics := none }

def pool1 : Array CpInfo := pool [(2, .class_ 4), (1, u "java/lang/Object"), (0, u "<init>"), (0, u "()V"), (0, .integer 1073741823), (0, .integer 65535), (0, .integer 2147483647), (0, .class_ 11), (0, u "com/example/occupancy/occupancy/scenario/EvenDepartures"), (0, .methodref 10 13), (0, .nameAndType 5 14), (0, u "(III)V"), (0, .methodref 10 16), (0, .nameAndType 17 18), (0, u "departureS"), (0, u "(I)D"), (0, .class_ 20), (0, u "com/example/occupancy/occupancy/scenario/EvenDeparturesDepartureSPinLaw"), (2, u "law"), (0, u "(IIII)Z")] 3

def k1m0 : Method := { name := "<init>", desc := "()V", sig := { parameters := [], returnType := none }, accessFlags := 1, code := none }
def k1c1 : Code := { maxStack := 6, maxLocals := 20, code := code, exceptionTable := #[], attributes := #[] }
def k1m1 : Method := { name := "law", desc := "(IIII)Z", sig := { parameters := [.int, .int, .int, .int], returnType := some .boolean }, accessFlags := 9, code := some k1c1 }
/-- com/example/occupancy/occupancy/scenario/EvenDeparturesDepartureSPinLaw -/
def k1 : Class := { plain "com/example/occupancy/occupancy/scenario/EvenDeparturesDepartureSPinLaw" (some 0) with
  accessFlags := 49
  interfaces := #[]
  cf := some (fileOf pool1 19 #[] #[{ accessFlags := 1, nameIndex := 5, descriptorIndex := 6, attributes := #[] }, { accessFlags := 9, nameIndex := 23, descriptorIndex := 24, attributes := #[] }] 49 2 #[] #[])
  fields := #[]
  methods := #[k1m0, k1m1]
  instanceTypes := #[]
  staticTypes := #[]
  resolved := Array.replicate 28 none
  statics := none }

def pool2 : Array CpInfo := pool [(1, .methodref 2 3), (0, .class_ 4), (0, .nameAndType 5 6), (0, u "java/lang/Object"), (0, u "<init>"), (0, u "()V"), (0, .fieldref 8 9), (0, .class_ 10), (0, .nameAndType 11 12), (0, u "com/example/occupancy/occupancy/scenario/EvenDepartures"), (0, u "count"), (0, u "I"), (0, .fieldref 8 14), (0, .nameAndType 15 12), (0, u "fromS"), (0, .fieldref 8 17), (0, .nameAndType 18 12), (0, u "toS"), (0, u "(III)V"), (3, u "departureS"), (0, u "(I)D")] 2

def k2c0 : Code := { maxStack := 2, maxLocals := 4, code := prog_41_method_1_code, exceptionTable := #[], attributes := #[] }
def k2m0 : Method := { name := "<init>", desc := "(III)V", sig := { parameters := [.int, .int, .int], returnType := none }, accessFlags := 0, code := some k2c0 }
def k2c1 : Code := { maxStack := 6, maxLocals := 2, code := prog_41_method_3_code, exceptionTable := #[], attributes := #[] }
def k2m1 : Method := { name := "departureS", desc := "(I)D", sig := { parameters := [.int], returnType := some .double }, accessFlags := 1, code := some k2c1 }
/-- com/example/occupancy/occupancy/scenario/EvenDepartures -/
def k2 : Class := { plain "com/example/occupancy/occupancy/scenario/EvenDepartures" (some 0) with
  accessFlags := 33
  interfaces := #[]
  cf := some (fileOf pool2 8 #[] #[{ accessFlags := 0, nameIndex := 5, descriptorIndex := 19, attributes := #[] }, { accessFlags := 1, nameIndex := 23, descriptorIndex := 24, attributes := #[] }] 33 2 #[] #[{ accessFlags := 18, nameIndex := 11, descriptorIndex := 12, attributes := #[] }, { accessFlags := 18, nameIndex := 15, descriptorIndex := 12, attributes := #[] }, { accessFlags := 18, nameIndex := 18, descriptorIndex := 12, attributes := #[] }])
  fields := #[{ name := "count", type := .int, accessFlags := 18, slot := 0, constantValue := 0 }, { name := "fromS", type := .int, accessFlags := 18, slot := 1, constantValue := 0 }, { name := "toS", type := .int, accessFlags := 18, slot := 2, constantValue := 0 }]
  methods := #[k2m0, k2m1]
  instanceTypes := #[.int, .int, .int]
  staticTypes := #[]
  resolved := Array.replicate 27 none
  statics := none }

def pool3 : Array CpInfo := pool [(1, u "java/lang/Cloneable"), (0, .class_ 1), (0, u "java/lang/Object"), (0, .class_ 3)] 3

/-- java/lang/Cloneable -/
def k3 : Class := { plain "java/lang/Cloneable" (some 0) with
  accessFlags := 1537
  interfaces := #[]
  cf := some (fileOf pool3 2 #[] #[] 1537 4 #[] #[])
  fields := #[]
  methods := #[]
  instanceTypes := #[]
  staticTypes := #[]
  resolved := Array.replicate 8 none
  statics := none }

def pool4 : Array CpInfo := pool [(1, u "java/io/Serializable"), (0, .class_ 1), (0, u "java/lang/Object"), (0, .class_ 3)] 3

/-- java/io/Serializable -/
def k4 : Class := { plain "java/io/Serializable" (some 0) with
  accessFlags := 1537
  interfaces := #[]
  cf := some (fileOf pool4 2 #[] #[] 1537 4 #[] #[])
  fields := #[]
  methods := #[]
  instanceTypes := #[]
  staticTypes := #[]
  resolved := Array.replicate 8 none
  statics := none }

/-- the primitive byte -/
def k5 : Class := { plain "byte" none with kind := .primitive 'B', accessFlags := 0x411 }
/-- [B -/
def k6 : Class := { plain "[B" (some 0) with kind := .array 5 .byte, interfaces := #[3, 4], accessFlags := 1041 }

/-- the primitive int -/
def k7 : Class := { plain "int" none with kind := .primitive 'I', accessFlags := 0x411 }
/-- [I -/
def k8 : Class := { plain "[I" (some 0) with kind := .array 7 .int, interfaces := #[3, 4], accessFlags := 1041 }

def heap : Heap := #[]
def classes : Array Class := #[k0, k1, k2, k3, k4, k5, k6, k7, k8]
def interned : List (Array UInt16 × Addr) := []
def slotsUsed : Nat := 0
def theMethod : MethodId := ⟨1, 1⟩
def args0 : Array Value := #[.int 5, .int 7, .int 3, .int 2]
def aboutOver (below : List Frame) : State where
  vm := { classes := classes, interned := interned.toArray }
  heap := heap
  slotsUsed := slotsUsed
  threads := #[{ frames := .invoking theMethod args0 :: below }]
def below0 : List Frame := [.native { method := ⟨0, 0⟩, args := #[] }]
def about1 : State := aboutOver below0
def p0 : Program := .bare "" "" ""
def e0 : Env := launch0.env 0 0 0
theorem w_frames : about1.frames = Frame.invoking theMethod args0 :: below0 := rfl
set_option maxRecDepth 65536 in
theorem w_args : argsFit about1.vm theMethod args0 = true := by decide +kernel
set_option maxRecDepth 65536 in
theorem w_heap : heapFits about1 = true := by decide +kernel
set_option maxRecDepth 65536 in
theorem w_runnable : about1.curStatus? = some .runnable := by decide +kernel
set_option maxRecDepth 65536 in
theorem w_alone : about1.alone = true := by decide +kernel
set_option maxRecDepth 65536 in
theorem w_named : about1.methodNamed? x = some theMethod := by decide +kernel
set_option maxRecDepth 65536 in
theorem w_hears : about1.hears theMethod below0 = true := by decide +kernel
set_option maxRecDepth 65536 in
theorem w_ripe : about1.ripe theMethod args0 below0 = true := by decide +kernel
theorem w_running : about1.status = .running := rfl
set_option maxRecDepth 65536 in
theorem w_room : about1.hasRoom e0.platform room_1 = true :=
  launch0.hasRoom_least _ room_1 (by decide +kernel) (by decide +kernel) (by decide +kernel) (by decide +kernel) (by decide +kernel) (by decide +kernel)
theorem allAtoms_all (ts : List Jvm.Cond) (a : Array Jvm.Value) (st : Jvm.State) : (allAtoms ts).before a st = ts.all (fun c => c.before a st) := by
  induction ts with
  | nil => rfl
  | cons c t ih =>
    show (Jvm.Cond.and c (allAtoms t)).before a st = _
    rw [Jvm.Cond.before_and, ih, List.all_cons]
def words1 : List Jvm.Cond := Jvm.Cond.code x code maxLocals ret :: tables_1
/-- a 'code' word, met by the world's own term for the bytes: nothing is compared byte by byte -/
theorem code_word {y : MethodName} {bytes : ByteArray} {mx : Nat} {rt : Option FieldType} {a : Array Value} {s : State} {m : MethodId} {meth : Method} {c : Code} (h1 : s.methodNamed? y = some m) (h2 : s.vm.method? m = some meth) (h3 : meth.code = some c) (h4 : c.code = bytes)
    (h5 : (c.maxLocals == mx && c.exceptionTable.isEmpty && decide (c.maxStack ≤ mostOperands) && decide (meth.sig.returnType = rt) && !meth.locks && decide (parseMethodDescriptor y.desc = some meth.sig)) = true) : (Jvm.Cond.code y bytes mx rt).before a s = true := by
  simp only [Bool.and_eq_true, beq_iff_eq, Bool.not_eq_true', decide_eq_true_eq] at h5
  obtain ⟨⟨⟨⟨⟨g1, g2⟩, g3⟩, g4⟩, g5⟩, g6⟩ := h5
  simp [Cond.before, Cond.holds, Cond.value, h1, h2, h3, h4, g1, g2, g3, g4, g5, g6]
def isCode : Jvm.Cond → Bool
  | .code _ _ _ _ => true
  | _ => false
theorem all_split {L : List Jvm.Cond} {P : Jvm.Cond → Bool} (h1 : L.all (fun c => isCode c || P c) = true) (h2 : ∀ c ∈ L.filter isCode, P c = true) : L.all P = true := by
  refine List.all_eq_true.mpr fun c hc => ?_
  have h := List.all_eq_true.mp h1 c hc
  rcases Bool.eq_false_or_eq_true (isCode c) with hi | hi
  · exact h2 c (List.mem_filter.mpr ⟨hc, hi⟩)
  · simpa [hi] using h
set_option maxRecDepth 65536 in
theorem w_c0 : (Jvm.Cond.code x code maxLocals ret).before args0 about1 = true := code_word (m := ⟨1, 1⟩) (meth := k1m1) (c := k1c1) (by decide +kernel) rfl rfl rfl (by decide +kernel)
set_option maxRecDepth 65536 in
theorem w_c1 : (Jvm.Cond.code ({ cls := "com/example/occupancy/occupancy/scenario/EvenDepartures", name := "<init>", desc := "(III)V" } : Jvm.MethodName) prog_41_method_1_code (4 : Nat) (Option.none : Option Jvm.ClassFile.FieldType)).before args0 about1 = true := code_word (m := ⟨2, 0⟩) (meth := k2m0) (c := k2c0) (by decide +kernel) rfl rfl rfl (by decide +kernel)
set_option maxRecDepth 65536 in
theorem w_c2 : (Jvm.Cond.code ({ cls := "java/lang/Object", name := "<init>", desc := "()V" } : Jvm.MethodName) object_method_1_code (1 : Nat) (Option.none : Option Jvm.ClassFile.FieldType)).before args0 about1 = true := code_word (m := ⟨0, 0⟩) (meth := k0m0) (c := k0c0) (by decide +kernel) rfl rfl rfl (by decide +kernel)
set_option maxRecDepth 65536 in
theorem w_c3 : (Jvm.Cond.code ({ cls := "com/example/occupancy/occupancy/scenario/EvenDepartures", name := "departureS", desc := "(I)D" } : Jvm.MethodName) prog_41_method_3_code (2 : Nat) (Option.some Jvm.ClassFile.FieldType.double)).before args0 about1 = true := code_word (m := ⟨2, 1⟩) (meth := k2m1) (c := k2c1) (by decide +kernel) rfl rfl rfl (by decide +kernel)
def codes1 : List Jvm.Cond := [Jvm.Cond.code x code maxLocals ret, Jvm.Cond.code ({ cls := "com/example/occupancy/occupancy/scenario/EvenDepartures", name := "<init>", desc := "(III)V" } : Jvm.MethodName) prog_41_method_1_code (4 : Nat) (Option.none : Option Jvm.ClassFile.FieldType), Jvm.Cond.code ({ cls := "java/lang/Object", name := "<init>", desc := "()V" } : Jvm.MethodName) object_method_1_code (1 : Nat) (Option.none : Option Jvm.ClassFile.FieldType), Jvm.Cond.code ({ cls := "com/example/occupancy/occupancy/scenario/EvenDepartures", name := "departureS", desc := "(I)D" } : Jvm.MethodName) prog_41_method_3_code (2 : Nat) (Option.some Jvm.ClassFile.FieldType.double)]
set_option maxRecDepth 65536 in
theorem codes_eq : words1.filter isCode = codes1 := rfl
theorem w_codes : ∀ c ∈ words1.filter isCode, c.before args0 about1 = true := by
  rw [codes_eq]
  intro c hc
  simp only [codes1, List.mem_cons, List.not_mem_nil, or_false] at hc
  rcases hc with rfl | rfl | rfl | rfl
  · exact w_c0
  · exact w_c1
  · exact w_c2
  · exact w_c3
set_option maxRecDepth 65536 in
theorem w_t1 : words1.all (fun c => isCode c || c.before args0 about1) = true := by decide +kernel
theorem w_tables : (allAtoms (Jvm.Cond.code x code maxLocals ret :: tables_1)).before args0 about1 = true := by
  rw [allAtoms_all]
  show words1.all (fun c => c.before args0 about1) = true
  refine all_split ?_ w_codes
  rw [w_t1]
set_option maxRecDepth 65536 in
theorem w_case : (Jvm.Cond.and given_1 narrow_1).before args0 about1 = true := by decide +kernel
theorem w_applies : (headSpec (Jvm.Cond.code x code maxLocals ret :: tables_1) room_1).applies x e0.platform about1 = true :=
  (Spec.applies_iff w_frames).mpr ⟨w_running, w_runnable, w_alone, w_named, w_hears, w_ripe, w_room, w_tables⟩
theorem atStart : AtStart classFile x code maxLocals ret World_1 tables_1 room_1 Calls_1 rest_1 Pre_1 launch0 p0 e0 about1 theMethod args0 below0 :=
  ⟨lists_1, trivial, launch0.admits_env _ _ _, launch0.least_env, fairChoices_fair.cas, fairChoices_fair.clock, w_frames, w_args, w_heap, w_applies, trivial, trivial, w_case⟩
end start1
theorem witness_1 : WitnessClaimed_1 := ⟨start1.p0, start1.e0, start1.about1, start1.theMethod, start1.args0, start1.below0, start1.atStart⟩
end Jvm.Pilot.@@N@@
