import JvmDerived
import JvmDerived.Pilot.@@N@@Statement
import JvmDerived.Pilot.@@N@@Code
set_option linter.unusedVariables false
set_option linter.unusedSimpArgs false
namespace Jvm.RoadKit
open Sem ClassFile Op Lib Jvm.Stand Jvm.Free Jvm.LawKit
section New
variable {p : Program} {l : Launch} {e : Env} {R : Room} {s : State} {m : MethodId} {args : Array Value} {below : List Frame} {meth : Method} {c : Code} {T : State} {locs : List Loc} {cells slots : Nat}
theorem retI (X : Stand p l e R s m args below meth c T locs cells slots) (hx : p.tables.exec = Jvm.exec) {pc : Nat} {Ls : Array Slot} {z : Int32} {rest : List Value} (hret : meth.sig.returnType = some .int) (hd : decode c.code pc = .ok (.ireturn, 1)) {fs : List Frame}
    (hl : ∀ (f : JFrame) (acts : List Action), f.method = m → f.locked = none → f.entered = [] → (doReturn e (T.setTop f) acts (some (.int z))).1 = T.setFrames fs) : Steps p.tables e below (T.setTop (mkF m pc Ls (.int z :: rest))) (T.setFrames fs) := by
  have hm' : T.vm.method? m = some meth := X.method'
  have hn : narrow .int (.int z) = .int z := rfl
  show Steps p.tables e below (T.setTop { method := m, pc := pc, locals := Ls, stack := _ :: rest, locked := none }) _
  jvm_step X.here [X.here.top, hx, hd, hm', hret, hn]
  first | (intro acts; rw [hl _ acts rfl rfl rfl]) | rw [hl _ _ rfl rfl rfl]
  exact Steps.refl _
end New
end Jvm.RoadKit
/- laws to paste: Road.backV, Road.lenW, Road.chN, Road.eqW (cut by pick.py; bodies as the Statement names them) -/
namespace Jvm.Pilot.@@N@@
namespace StrChars
open Jvm Sem ClassFile Op Lib Jvm.Stand Jvm.Free.XT Jvm.Free.ALB Jvm.Free.JM Jvm.Free
open Jvm.Lib.Cold (StaticIs)
/-- a char array whose places are chars -/
def Ch (a : Addr) (A : Cell) (U : State) : Prop := Arr .char a A U ∧ Typed .char A
theorem Ch.mv {a : Addr} {A : Cell} {U U' : State} (h : Ch a A U) (hal : U.vm.Alike U'.vm) (hh : U'.heap = U.heap) : Ch a A U' := ⟨h.1.mv hal hh, h.2⟩
theorem Ch.keep {a : Addr} {A : Cell} {U U' : State} (h : Ch a A U) (hal : U.vm.Alike U'.vm) (hk : U'.heap[a]? = some A) : Ch a A U' := ⟨h.1.keep hal hk, h.2⟩
/-- what place i of a char[]'s cell holds -/
def cv (A : Cell) (i : Nat) : Int32 := match A.slots[i]? with | some (.int x) => x | _ => 0
theorem Ch.get {a : Addr} {A : Cell} {U : State} (h : Ch a A U) {i : Nat} (hi : i < A.slots.size) : A.slots[i]? = some (.int (cv A i)) := by
  have e := Array.getElem?_eq_getElem hi
  have f := h.2 i _ e
  unfold cv; rw [e]
  generalize A.slots[i] = v at f
  cases v <;> simp [fits] at f ⊢
/-- the byte that i2b leaves of a char -/
def lo8 (x : Int32) : Int32 := x.toInt8.toInt32
theorem fits_lo8 (y : Int32) : fits .byte (.int (lo8 y)) = true := by
  have h1 := y.toInt8.le_toInt
  have h2 := y.toInt8.toInt_lt
  simp only [lo8, fits, Bool.and_eq_true, decide_eq_true_eq, Int32.le_iff_toInt_le, Int8.toInt_toInt32, show (-128 : Int32).toInt = -128 from by decide, show (127 : Int32).toInt = 127 from by decide]
  omega
/-- A' is A but that each place j of lo .. hi - 1 holds f j -/
def Laid (A A' : Cell) (lo hi : Nat) (f : Nat → Value) : Prop := A'.cls = A.cls ∧ A'.vm = A.vm ∧ A'.slots.size = A.slots.size ∧ ∀ i, A'.slots[i]? = if lo ≤ i ∧ i < hi then some (f i) else A.slots[i]?
theorem Laid.zero (A : Cell) (lo : Nat) (f : Nat → Value) : Laid A A lo (lo + 0) f := ⟨rfl, rfl, rfl, fun i => by rw [if_neg (by omega)]⟩
theorem Laid.step {A Ak : Cell} {lo k : Nat} {f : Nat → Value} {v : Value} (h : Laid A Ak lo k f) (hlo : lo ≤ k) (hk : k < Ak.slots.size) (hv : v = f k) : Laid A (Ak.setSlot k v) lo (k + 1) f := by
  refine ⟨h.1, h.2.1, by simpa [Cell.setSlot] using h.2.2.1, fun i => ?_⟩
  by_cases e : k = i
  · subst e; rw [Cell.slots_setSlot_self v hk, if_pos (by omega), hv]
  · rw [Cell.slots_setSlot_ne v e, h.2.2.2 i]
    by_cases q : lo ≤ i ∧ i < k
    · rw [if_pos q, if_pos (by omega)]
    · rw [if_neg q, if_neg (by omega)]
def U16 : String := "java/lang/StringUTF16"
namespace Cmp5
def yN : MethodName := ⟨"java/lang/StringUTF16", "compress", "([CI[BII)I"⟩
abbrev yB : ByteArray := jdk_52_method_21_code
theorem d0 : decode yB 0 = .ok (.iconst 0, 1) := by decide +kernel
theorem d1 : decode yB 1 = .ok (.istore 5, 2) := by decide +kernel
theorem d3 : decode yB 3 = .ok (.iload 5, 2) := by decide +kernel
theorem d5 : decode yB 5 = .ok (.iload 4, 2) := by decide +kernel
theorem d7 : decode yB 7 = .ok (.if_icmp (.ge) 37, 3) := by decide +kernel
theorem d10 : decode yB 10 = .ok (.aload_n 0, 1) := by decide +kernel
theorem d11 : decode yB 11 = .ok (.iload_n 1, 1) := by decide +kernel
theorem d12 : decode yB 12 = .ok (.caload, 1) := by decide +kernel
theorem d13 : decode yB 13 = .ok (.istore 6, 2) := by decide +kernel
theorem d15 : decode yB 15 = .ok (.iload 6, 2) := by decide +kernel
theorem d17 : decode yB 17 = .ok (.sipush 255, 3) := by decide +kernel
theorem d20 : decode yB 20 = .ok (.if_icmp (.le) 6, 3) := by decide +kernel
theorem d26 : decode yB 26 = .ok (.aload_n 2, 1) := by decide +kernel
theorem d27 : decode yB 27 = .ok (.iload_n 3, 1) := by decide +kernel
theorem d28 : decode yB 28 = .ok (.iload 6, 2) := by decide +kernel
theorem d30 : decode yB 30 = .ok (.i2b, 1) := by decide +kernel
theorem d31 : decode yB 31 = .ok (.bastore, 1) := by decide +kernel
theorem d32 : decode yB 32 = .ok (.iinc 1 1, 3) := by decide +kernel
theorem d35 : decode yB 35 = .ok (.iinc 3 1, 3) := by decide +kernel
theorem d38 : decode yB 38 = .ok (.iinc 5 1, 3) := by decide +kernel
theorem d41 : decode yB 41 = .ok (.goto (-38), 3) := by decide +kernel
theorem d44 : decode yB 44 = .ok (.iload 4, 2) := by decide +kernel
theorem d46 : decode yB 46 = .ok (.ireturn, 1) := by decide +kernel
def site : List Cond := []
def tab : Cond := tabOf yN yB 7 (some .int) site
def P (b : Addr) (A : Cell) (d : Addr) (B : Cell) (o q len : Nat) (args : Array Value) (s : State) : Prop := args = #[.ref b, .int (Int32.ofNat o), .ref d, .int (Int32.ofNat q), .int (Int32.ofNat len)] ∧ Ch b A s ∧ Arr .byte d B s ∧ b ≠ d ∧ o + len ≤ A.slots.size ∧ q + len ≤ B.slots.size ∧ ∀ i, i < len → ¬ 255 < cv A (o + i)
def E (b : Addr) (A : Cell) (d : Addr) (B : Cell) (o q len : Nat) (r : Option Value) (s u : State) : Prop := r = some (.int (Int32.ofNat len)) ∧ ∃ B', Put d B' s u ∧ Laid B B' q (q + len) (fun j => Value.int (lo8 (cv A (o + (j - q)))))
/-- no char of the range above 255: len; the places written hold each char's low byte -/
theorem law (l : Launch) (b : Addr) (A : Cell) (d : Addr) (B : Cell) (o q len : Nat) : Law l yN 5 5 0 0 yB 7 (some .int) site (P b A d B o q len) (E b A d B o q len) (copyLocs d q len) 0 0 := by
  refine Law.of_walk (plainFor_of_name (by decide +kernel)) (by decide +kernel) (by decide +kernel) (by decide) (fun _ _ h => by rw [h.1]; rfl) (fun _ U U' hal hh h => ⟨h.1, h.2.1.mv hal hh, h.2.2.1.mv hal hh, h.2.2.2⟩) (fun r U U' V V' h1 hal h2 h => ⟨h.1, h.2.elim fun B' q => ⟨B', q.1.mv h1 h2, q.2⟩⟩) ?_
  intro p e s m args below meth c s₁ X0 hexec hbytes hml hret hlk hnm hown hh0 W hP
  obtain ⟨rfl, hA, hB, hne, l1, l2, hp⟩ := hP
  have c1 : Steps p.tables e below (s₁.setTop (entryFrame m #[.ref b, .int (Int32.ofNat o), .ref d, .int (Int32.ofNat q), .int (Int32.ofNat len)] 7)) (s₁.setTop (mkF m 0 #[.val (.ref b), .val (.int (Int32.ofNat o)), .val (.ref d), .val (.int (Int32.ofNat q)), .val (.int (Int32.ofNat len)), .unset, .unset] [])) := entry rfl
  have hA0 := hA.1.mv X0.warmed.alike hh0
  have hB0 := hB.mv X0.warmed.alike hh0
  have a31 := hA.1.2.2.2
  have c2 : Steps p.tables e below (s₁.setTop (entryFrame m #[.ref b, .int (Int32.ofNat o), .ref d, .int (Int32.ofNat q), .int (Int32.ofNat len)] 7)) (s₁.setTop (mkF m 3 #[.val (.ref b), .val (.int (Int32.ofNat o)), .val (.ref d), .val (.int (Int32.ofNat q)), .val (.int (Int32.ofNat len)), .val (.int 0), .unset] [])) := c1.trans (by
    refine iconstV X0.here hexec rfl 0 (hb hbytes d0) (by decide) ?_
    refine XS.istore X0.here hexec rfl (hb hbytes d1) rfl rfl ?_
    exact Steps.refl _)
  have loop : ∀ (r i : Nat), i + r = len → ∀ (z : Slot), (z = .unset ∨ ∃ w, z = .val w ∧ w.category = 1) → ∀ (Tl : State) (Bk : Cell), Stand p l e { frames := 0, locals := 0, cells := 0, slots := 0 } s m #[.ref b, .int (Int32.ofNat o), .ref d, .int (Int32.ofNat q), .int (Int32.ofNat len)] below meth c Tl ([] ++ copyLocs d q i) 0 0 → Put d Bk s₁ Tl → Laid B Bk q (q + i) (fun j => Value.int (lo8 (cv A (o + (j - q))))) →
      Steps p.tables e below (s₁.setTop (entryFrame m #[.ref b, .int (Int32.ofNat o), .ref d, .int (Int32.ofNat q), .int (Int32.ofNat len)] 7)) (Tl.setTop (mkF m 3 #[.val (.ref b), .val (.int (Int32.ofNat (o + i))), .val (.ref d), .val (.int (Int32.ofNat (q + i))), .val (.int (Int32.ofNat len)), .val (.int (Int32.ofNat i)), z] [])) → ∃ (T' : State) (B' : Cell) (z' : Slot), Stand p l e { frames := 0, locals := 0, cells := 0, slots := 0 } s m #[.ref b, .int (Int32.ofNat o), .ref d, .int (Int32.ofNat q), .int (Int32.ofNat len)] below meth c T' ([] ++ copyLocs d q len) 0 0 ∧ Put d B' s₁ T' ∧ Laid B B' q (q + len) (fun j => Value.int (lo8 (cv A (o + (j - q))))) ∧
      Steps p.tables e below (s₁.setTop (entryFrame m #[.ref b, .int (Int32.ofNat o), .ref d, .int (Int32.ofNat q), .int (Int32.ofNat len)] 7)) (T'.setTop (mkF m 3 #[.val (.ref b), .val (.int (Int32.ofNat (o + len))), .val (.ref d), .val (.int (Int32.ofNat (q + len))), .val (.int (Int32.ofNat len)), .val (.int (Int32.ofNat len)), z'] [])) := by
    intro r
    induction r with
    | zero =>
      intro i hi z hz Tl Bk Xl pl fl cl
      have hil : i = len := by omega
      rw [hil] at Xl fl cl
      exact ⟨Tl, Bk, z, Xl, pl, fl, cl⟩
    | succ r ih =>
      intro i hi z hz Tl Bk Xl pl fl cl
      have all := X0.warmed.alike.symm.trans Xl.warmed.alike
      have hAl := hA0.keep all (pl.other hne hA0.1)
      have hBk := hB0.like all pl.1 fl.1 fl.2.1 fl.2.2.1
      have hlt : q + i < Bk.slots.size := by rw [fl.2.2.1]; omega
      have c3 : Steps p.tables e below (s₁.setTop (entryFrame m #[.ref b, .int (Int32.ofNat o), .ref d, .int (Int32.ofNat q), .int (Int32.ofNat len)] 7)) (Tl.setTop (mkF m 12 #[.val (.ref b), .val (.int (Int32.ofNat (o + i))), .val (.ref d), .val (.int (Int32.ofNat (q + i))), .val (.int (Int32.ofNat len)), .val (.int (Int32.ofNat i)), z] [.int (Int32.ofNat (o + i)), .ref b])) := cl.trans (by
        refine XS.iload Xl.here hexec rfl (hb hbytes d3) rfl ?_
        refine XS.iload Xl.here hexec rfl (hb hbytes d5) rfl ?_
        refine XS.icmpNo Xl.here hexec rfl (hb hbytes d7) rfl (ii_ge_f (lt32 (by omega) (by omega))) ?_
        refine XS.aloadN Xl.here hexec rfl (hb hbytes d10) rfl rfl ?_
        refine XS.iloadN Xl.here hexec rfl (hb hbytes d11) rfl ?_
        exact Steps.refl _)
      have c4 : Steps p.tables e below (s₁.setTop (entryFrame m #[.ref b, .int (Int32.ofNat o), .ref d, .int (Int32.ofNat q), .int (Int32.ofNat len)] 7)) (Tl.setTop (mkF m 13 #[.val (.ref b), .val (.int (Int32.ofNat (o + i))), .val (.ref d), .val (.int (Int32.ofNat (q + i))), .val (.int (Int32.ofNat len)), .val (.int (Int32.ofNat i)), z] [.int (cv A (o + i))])) := c3.trans (by
        refine Xl.aget hexec hAl rfl (hA.get (i := o + i) (by omega)) rfl rfl (hb hbytes d12) ?_
        exact Steps.refl _)
      have c5 : Steps p.tables e below (s₁.setTop (entryFrame m #[.ref b, .int (Int32.ofNat o), .ref d, .int (Int32.ofNat q), .int (Int32.ofNat len)] 7)) (Tl.setTop (mkF m 15 #[.val (.ref b), .val (.int (Int32.ofNat (o + i))), .val (.ref d), .val (.int (Int32.ofNat (q + i))), .val (.int (Int32.ofNat len)), .val (.int (Int32.ofNat i)), .val (.int (cv A (o + i)))] [])) := c4.trans (by
        refine XS.istoreS Xl.here hexec rfl (hb hbytes d13) rfl rfl hz ?_
        exact Steps.refl _)
      have c6 : Steps p.tables e below (s₁.setTop (entryFrame m #[.ref b, .int (Int32.ofNat o), .ref d, .int (Int32.ofNat q), .int (Int32.ofNat len)] 7)) (Tl.setTop (mkF m 31 #[.val (.ref b), .val (.int (Int32.ofNat (o + i))), .val (.ref d), .val (.int (Int32.ofNat (q + i))), .val (.int (Int32.ofNat len)), .val (.int (Int32.ofNat i)), .val (.int (cv A (o + i)))] [.int (lo8 (cv A (o + i))), .int (Int32.ofNat (q + i)), .ref d])) := c5.trans (by
        refine XS.iload Xl.here hexec rfl (hb hbytes d15) rfl ?_
        refine sipushV Xl.here hexec rfl 255 (hb hbytes d17) (by decide) ?_
        refine XS.icmpYes Xl.here hexec rfl (pc0 := 20) rfl (hb hbytes d20) rfl (ii_le_t (hp i (by omega))) (by decide) rfl ?_
        refine XS.aloadN Xl.here hexec rfl (hb hbytes d26) rfl rfl ?_
        refine XS.iloadN Xl.here hexec rfl (hb hbytes d27) rfl ?_
        refine XS.iload Xl.here hexec rfl (hb hbytes d28) rfl ?_
        refine i2b Xl.here hexec rfl (hb hbytes d30) rfl ?_
        exact Steps.refl _)
      obtain ⟨T7, X7, p7, st7⟩ := Xl.aput hexec hBk rfl hlt rfl (fits_lo8 (cv A (o + i))) (g := (mkF m 31 #[.val (.ref b), .val (.int (Int32.ofNat (o + i))), .val (.ref d), .val (.int (Int32.ofNat (q + i))), .val (.int (Int32.ofNat len)), .val (.int (Int32.ofNat i)), .val (.int (cv A (o + i)))] [.int (lo8 (cv A (o + i))), .int (Int32.ofNat (q + i)), .ref d])) rfl (rest := []) rfl (hb hbytes d31)
      have c8 : Steps p.tables e below (s₁.setTop (entryFrame m #[.ref b, .int (Int32.ofNat o), .ref d, .int (Int32.ofNat q), .int (Int32.ofNat len)] 7)) (T7.setTop (mkF m 32 #[.val (.ref b), .val (.int (Int32.ofNat (o + i))), .val (.ref d), .val (.int (Int32.ofNat (q + i))), .val (.int (Int32.ofNat len)), .val (.int (Int32.ofNat i)), .val (.int (cv A (o + i)))] [])) := c6.trans (st7 _ (Steps.refl _))
      have c9 : Steps p.tables e below (s₁.setTop (entryFrame m #[.ref b, .int (Int32.ofNat o), .ref d, .int (Int32.ofNat q), .int (Int32.ofNat len)] 7)) (T7.setTop (mkF m 3 #[.val (.ref b), .val (.int (Int32.ofNat (o + i) + 1)), .val (.ref d), .val (.int (Int32.ofNat (q + i) + 1)), .val (.int (Int32.ofNat len)), .val (.int (Int32.ofNat i + 1)), .val (.int (cv A (o + i)))] [])) := c8.trans (by
        refine iincV X7.here hexec rfl 1 (hb hbytes d32) (by decide) rfl rfl ?_
        refine iincV X7.here hexec rfl 1 (hb hbytes d35) (by decide) rfl rfl ?_
        refine iincV X7.here hexec rfl 1 (hb hbytes d38) (by decide) rfl rfl ?_
        refine XS.goto X7.here hexec rfl (pc0 := 41) rfl (hb hbytes d41) (by decide) rfl ?_
        exact Steps.refl _)
      have c10 : Steps p.tables e below (s₁.setTop (entryFrame m #[.ref b, .int (Int32.ofNat o), .ref d, .int (Int32.ofNat q), .int (Int32.ofNat len)] 7)) (T7.setTop (mkF m 3 #[.val (.ref b), .val (.int (Int32.ofNat (o + (i + 1)))), .val (.ref d), .val (.int (Int32.ofNat (q + (i + 1)))), .val (.int (Int32.ofNat len)), .val (.int (Int32.ofNat (i + 1))), .val (.int (cv A (o + i)))] [])) := by
        have := c9
        rw [succ32, succ32, succ32] at this
        exact this
      exact ih (i + 1) (by omega) _ (Or.inr ⟨_, rfl, rfl⟩) T7 _ (by rw [copyLocs_step, ← List.append_assoc]; exact X7) (pl.trans p7) (fl.step (by omega) hlt (by simp)) c10
  obtain ⟨T9, B9, z9, X9, p9, f9, g9⟩ := loop len 0 (by omega) .unset (Or.inl rfl) s₁ B (by simpa [copyLocs] using X0) ⟨hB0.1, fun _ _ => rfl, rfl⟩ (Laid.zero _ _ _) c2
  have c11 : Steps p.tables e below (s₁.setTop (entryFrame m #[.ref b, .int (Int32.ofNat o), .ref d, .int (Int32.ofNat q), .int (Int32.ofNat len)] 7)) (T9.setTop (mkF m 46 #[.val (.ref b), .val (.int (Int32.ofNat (o + len))), .val (.ref d), .val (.int (Int32.ofNat (q + len))), .val (.int (Int32.ofNat len)), .val (.int (Int32.ofNat len)), z9] [.int (Int32.ofNat len)])) := g9.trans (by
    refine XS.iload X9.here hexec rfl (hb hbytes d3) rfl ?_
    refine XS.iload X9.here hexec rfl (hb hbytes d5) rfl ?_
    refine XS.icmpYes X9.here hexec rfl (pc0 := 7) rfl (hb hbytes d7) rfl (ii_ge_t (nlt32 (by omega) (Nat.le_refl _))) (by decide) rfl ?_
    refine XS.iload X9.here hexec rfl (hb hbytes d44) rfl ?_
    exact Steps.refl _)
  exact ⟨T9, some (.int (Int32.ofNat len)), _, _, _, X9, by simp, rfl, rfl, (fun h => by cases h), ⟨rfl, B9, p9.from hh0, f9⟩, fun fs hl => c11.trans (X9.ireturnOut hexec hret rfl (Or.inl rfl) (hb hbytes d46) hl)⟩
end Cmp5
namespace Cmp3
def yN : MethodName := ⟨"java/lang/StringUTF16", "compress", "([CII)[B"⟩
abbrev yB : ByteArray := jdk_52_method_16_code
theorem d0 : decode yB 0 = .ok (.iload_n 2, 1) := by decide +kernel
theorem d1 : decode yB 1 = .ok (.newarray .byte, 2) := by decide +kernel
theorem d3 : decode yB 3 = .ok (.astore_n 3, 1) := by decide +kernel
theorem d4 : decode yB 4 = .ok (.aload_n 0, 1) := by decide +kernel
theorem d5 : decode yB 5 = .ok (.iload_n 1, 1) := by decide +kernel
theorem d6 : decode yB 6 = .ok (.aload_n 3, 1) := by decide +kernel
theorem d7 : decode yB 7 = .ok (.iconst 0, 1) := by decide +kernel
theorem d8 : decode yB 8 = .ok (.iload_n 2, 1) := by decide +kernel
theorem d9 : decode yB 9 = .ok (.invokestatic 115, 3) := by decide +kernel
theorem d12 : decode yB 12 = .ok (.istore 4, 2) := by decide +kernel
theorem d14 : decode yB 14 = .ok (.iload 4, 2) := by decide +kernel
theorem d16 : decode yB 16 = .ok (.iload_n 2, 1) := by decide +kernel
theorem d17 : decode yB 17 = .ok (.if_icmp (.eq) 40, 3) := by decide +kernel
theorem d57 : decode yB 57 = .ok (.aload_n 3, 1) := by decide +kernel
theorem d58 : decode yB 58 = .ok (.areturn, 1) := by decide +kernel
def site : List Cond := [.arrayClass .byte, Cmp5.tab] ++ staticW U16 115 Cmp5.yN
def tab : Cond := tabOf yN yB 6 (some (.array .byte)) site
def P (b : Addr) (A : Cell) (o len : Nat) (args : Array Value) (s : State) : Prop := args = #[.ref b, .int (Int32.ofNat o), .int (Int32.ofNat len)] ∧ Ch b A s ∧ o + len ≤ A.slots.size ∧ len ≤ 536870912 ∧ ∀ i, i < len → ¬ 255 < cv A (o + i)
def E (b : Addr) (A : Cell) (o len : Nat) (r : Option Value) (s u : State) : Prop := NewArr .byte "[B" len (fun j => .int (lo8 (cv A (o + j)))) r s u ∧ u.heap.size = s.heap.size + 1
/-- no char of the range above 255: a new byte[] of their low bytes -/
theorem law (l : Launch) (b : Addr) (A : Cell) (o len : Nat) : Law l yN 3 3 1 18 yB 6 (some (.array .byte)) site (P b A o len) (E b A o len) [] 1 len := by
  refine Law.of_walk (plainFor_of_name (by decide +kernel)) (by decide +kernel) (by decide +kernel) (by decide) (fun _ _ h => by rw [h.1]; rfl) (fun _ U U' hal hh h => ⟨h.1, h.2.1.mv hal hh, h.2.2⟩) (fun r U U' V V' h1 hal h2 h => ⟨NewArr.mv r U U' V V' h1 hal h2 h.1, by rw [h1, h2]; exact h.2⟩) ?_
  intro p e s m args below meth c s₁ X0 hexec hbytes hml hret hlk hnm hown hh0 W hP
  obtain ⟨rfl, hA, l1, l2, hp⟩ := hP
  have a31 := hA.1.2.2.2
  have c1 : Steps p.tables e below (s₁.setTop (entryFrame m #[.ref b, .int (Int32.ofNat o), .int (Int32.ofNat len)] 6)) (s₁.setTop (mkF m 0 #[.val (.ref b), .val (.int (Int32.ofNat o)), .val (.int (Int32.ofNat len)), .unset, .unset, .unset] [])) := entry rfl
  have c2 : Steps p.tables e below (s₁.setTop (entryFrame m #[.ref b, .int (Int32.ofNat o), .int (Int32.ofNat len)] 6)) (s₁.setTop (mkF m 1 #[.val (.ref b), .val (.int (Int32.ofNat o)), .val (.int (Int32.ofNat len)), .unset, .unset, .unset] [.int (Int32.ofNat len)])) := c1.trans (by
    refine XS.iloadN X0.here hexec rfl (hb hbytes d0) rfl ?_
    exact Steps.refl _)
  obtain ⟨T3, B3, X3, ba3, bs3, bv3, bh3, bf3, st3⟩ := X0.anew hexec (atype := .byte) (wk W (.arrayClass .byte)) rfl (by show len * 1 ≤ _; omega) (by omega) (g := (mkF m 1 #[.val (.ref b), .val (.int (Int32.ofNat o)), .val (.int (Int32.ofNat len)), .unset, .unset, .unset] [.int (Int32.ofNat len)])) rfl (hb hbytes d1) (rest := []) rfl (Nat.le_refl _) (by show 0 + len ≤ len; omega)
  rw [hh0] at ba3 st3
  have kp3 : XT.Kept s T3 := (XT.Kept.of_eq hh0).push bh3
  have hA3 := hA.keep X3.warmed.alike (kp3 _ _ hA.1.1)
  have hne : b ≠ s.heap.size := hA.1.ne
  have c4 : Steps p.tables e below (s₁.setTop (entryFrame m #[.ref b, .int (Int32.ofNat o), .int (Int32.ofNat len)] 6)) (T3.setTop (mkF m 3 #[.val (.ref b), .val (.int (Int32.ofNat o)), .val (.int (Int32.ofNat len)), .unset, .unset, .unset] [.ref s.heap.size])) := c2.trans (st3 _ (Steps.refl _))
  have c5 : Steps p.tables e below (s₁.setTop (entryFrame m #[.ref b, .int (Int32.ofNat o), .int (Int32.ofNat len)] 6)) (T3.setTop (mkF m 9 #[.val (.ref b), .val (.int (Int32.ofNat o)), .val (.int (Int32.ofNat len)), .val (.ref s.heap.size), .unset, .unset] [.int (Int32.ofNat len), .int 0, .ref s.heap.size, .int (Int32.ofNat o), .ref b])) := c4.trans (by
    refine XS.astoreN X3.here hexec rfl (hb hbytes d3) rfl rfl rfl ?_
    refine XS.aloadN X3.here hexec rfl (hb hbytes d4) rfl rfl ?_
    refine XS.iloadN X3.here hexec rfl (hb hbytes d5) rfl ?_
    refine XS.aloadN X3.here hexec rfl (hb hbytes d6) rfl rfl ?_
    refine iconstV X3.here hexec rfl 0 (hb hbytes d7) (by decide) ?_
    refine XS.iloadN X3.here hexec rfl (hb hbytes d8) rfl ?_
    exact Steps.refl _)
  obtain ⟨v6, T6, X6, E6, g6⟩ := X3.callS hexec (Cmp5.law l b A s.heap.size B3 o 0 len) hown (wks W (staticW U16 115 Cmp5.yN)) (wk W Cmp5.tab) (W := 0) (Nat.le_of_ble_eq_true rfl) (Nat.le_of_ble_eq_true rfl) (Nat.le_refl _) (by show 0 + len + 0 ≤ len; omega) (g := (mkF m 9 #[.val (.ref b), .val (.int (Int32.ofNat o)), .val (.int (Int32.ofNat len)), .val (.ref s.heap.size), .unset, .unset] [.int (Int32.ofNat len), .int (Int32.ofNat 0), .ref s.heap.size, .int (Int32.ofNat o), .ref b])) rfl (by rw [hml]; rfl) c5 (argsL := [.ref b, .int (Int32.ofNat o), .ref s.heap.size, .int (Int32.ofNat 0), .int (Int32.ofNat len)]) (rest := []) rfl rfl (by show 2 * 0 + 0 ≤ _; decide) (hb hbytes d9) (⟨rfl, hA3, ba3, hne, l1, by rw [bs3]; simp, hp⟩)
  obtain ⟨rfl, B6, p6, f6⟩ := E6
  have c7 : Steps p.tables e below (s₁.setTop (entryFrame m #[.ref b, .int (Int32.ofNat o), .int (Int32.ofNat len)] 6)) (T6.setTop (mkF m 12 #[.val (.ref b), .val (.int (Int32.ofNat o)), .val (.int (Int32.ofNat len)), .val (.ref s.heap.size), .unset, .unset] [.int (Int32.ofNat len)])) := g6
  have c8 : Steps p.tables e below (s₁.setTop (entryFrame m #[.ref b, .int (Int32.ofNat o), .int (Int32.ofNat len)] 6)) (T6.setTop (mkF m 58 #[.val (.ref b), .val (.int (Int32.ofNat o)), .val (.int (Int32.ofNat len)), .val (.ref s.heap.size), .val (.int (Int32.ofNat len)), .unset] [.ref s.heap.size])) := c7.trans (by
    refine XS.istore X6.here hexec rfl (hb hbytes d12) rfl rfl ?_
    refine XS.iload X6.here hexec rfl (hb hbytes d14) rfl ?_
    refine XS.iloadN X6.here hexec rfl (hb hbytes d16) rfl ?_
    refine XS.icmpYes X6.here hexec rfl (pc0 := 17) rfl (hb hbytes d17) rfl (ii_eq_t rfl) (by decide) rfl ?_
    refine XS.aloadN X6.here hexec rfl (hb hbytes d57) rfl rfl ?_
    exact Steps.refl _)
  have X8 := X6.wide (L' := []) (cells' := 1) (slots' := len) (fun x hx hlt => by
    simp only [List.nil_append, copyLocs, List.mem_map, List.mem_range] at hx
    obtain ⟨i, -, rfl⟩ := hx
    exact absurd hlt (Nat.lt_irrefl _)) (Nat.le_refl _) (by omega)
  exact ⟨T6, some (.ref s.heap.size), _, _, _, X8, rfl, rfl, rfl, (fun h => by cases h), ⟨⟨rfl, B6, ba3.like (X3.warmed.alike.symm.trans X6.warmed.alike) p6.1 f6.1 f6.2.1 f6.2.2.1, f6.2.1.trans bv3, by rw [X6.warmed.alike.findClass, f6.1]; exact bf3, by rw [f6.2.2.1, bs3]; simp, fun j hj => by rw [f6.2.2.2 j, if_pos (by omega)]; rfl, kp3.put p6 (Nat.le_refl _)⟩, by rw [p6.2.2, bh3, hh0]; simp⟩, fun fs hl => c8.trans (X8.areturnOut hexec rfl hret rfl (hb hbytes d58) hl)⟩
end Cmp3
namespace CodL
def yN : MethodName := ⟨"java/lang/StringUTF16", "coderFromArrayLen", "([BI)B"⟩
abbrev yB : ByteArray := jdk_52_method_15_code
theorem d0 : decode yB 0 = .ok (.iload_n 1, 1) := by decide +kernel
theorem d1 : decode yB 1 = .ok (.aload_n 0, 1) := by decide +kernel
theorem d2 : decode yB 2 = .ok (.arraylength, 1) := by decide +kernel
theorem d3 : decode yB 3 = .ok (.isub, 1) := by decide +kernel
theorem d4 : decode yB 4 = .ok (.bipush 31, 2) := by decide +kernel
theorem d6 : decode yB 6 = .ok (.iushr, 1) := by decide +kernel
theorem d7 : decode yB 7 = .ok (.i2b, 1) := by decide +kernel
theorem d8 : decode yB 8 = .ok (.ireturn, 1) := by decide +kernel
def site : List Cond := []
def tab : Cond := tabOf yN yB 2 (some .byte) site
def P (d : Addr) (B : Cell) (args : Array Value) (s : State) : Prop := args = #[.ref d, .int (Int32.ofNat B.slots.size)] ∧ Arr .byte d B s
def E (r : Option Value) (s u : State) : Prop := XT.PureE (some (.int 0)) r s u
/-- an array as long as the number of chars: LATIN1 -/
theorem law (l : Launch) (d : Addr) (B : Cell) : Law l yN 2 2 0 0 yB 2 (some .byte) site (P d B) E [] 0 0 := by
  refine Law.of_walk (plainFor_of_name (by decide +kernel)) (by decide +kernel) (by decide +kernel) (by decide) (fun _ _ h => by rw [h.1]; rfl) (fun _ U U' hal hh h => ⟨h.1, h.2.mv hal hh⟩) (fun r U U' V V' h1 hal h2 h => XT.PureE.mv r U U' V V' h1 hal h2 h) ?_
  intro p e s m args below meth c s₁ X0 hexec hbytes hml hret hlk hnm hown hh0 W hP
  obtain ⟨rfl, hB⟩ := hP
  have hB0 := hB.mv X0.warmed.alike hh0
  have c1 : Steps p.tables e below (s₁.setTop (entryFrame m #[.ref d, .int (Int32.ofNat B.slots.size)] 2)) (s₁.setTop (mkF m 0 #[.val (.ref d), .val (.int (Int32.ofNat B.slots.size))] [])) := entry rfl
  have c2 : Steps p.tables e below (s₁.setTop (entryFrame m #[.ref d, .int (Int32.ofNat B.slots.size)] 2)) (s₁.setTop (mkF m 2 #[.val (.ref d), .val (.int (Int32.ofNat B.slots.size))] [.ref d, .int (Int32.ofNat B.slots.size)])) := c1.trans (by
    refine XS.iloadN X0.here hexec rfl (hb hbytes d0) rfl ?_
    refine XS.aloadN X0.here hexec rfl (hb hbytes d1) rfl rfl ?_
    exact Steps.refl _)
  have c3 : Steps p.tables e below (s₁.setTop (entryFrame m #[.ref d, .int (Int32.ofNat B.slots.size)] 2)) (s₁.setTop (mkF m 8 #[.val (.ref d), .val (.int (Int32.ofNat B.slots.size))] [.int (lo8 (ushr (Int32.ofNat B.slots.size - Int32.ofNat B.slots.size) 31))])) := c2.trans (by
    refine X0.alen hexec hB0 rfl rfl (hb hbytes d2) ?_
    refine XS.isub X0.here hexec rfl (hb hbytes d3) rfl ?_
    refine bipushV X0.here hexec rfl 31 (hb hbytes d4) (by decide) ?_
    refine iushr X0.here hexec rfl (hb hbytes d6) rfl ?_
    refine i2b X0.here hexec rfl (hb hbytes d7) rfl ?_
    exact Steps.refl _)
  have e0 : lo8 (ushr (Int32.ofNat B.slots.size - Int32.ofNat B.slots.size) 31) = 0 := by rw [Int32.sub_self]; decide
  rw [e0] at c3
  exact ⟨s₁, some (.int 0), _, _, _, X0, rfl, rfl, rfl, (fun h => by cases h), ⟨rfl, hh0⟩, fun fs hl => c3.trans (X0.ireturnOut hexec hret rfl (Or.inr (Or.inr (Or.inl rfl))) (hb hbytes d8) hl)⟩
end CodL
/-- the String at a is Latin-1 over a new byte[] (the heap's one new cell): the low bytes of the len chars of A from o on; every cell but a is kept -/
def Got (a : Addr) (D : Cell) (fV fC : Field) (A : Cell) (o len : Nat) (r : Option Value) (s u : State) : Prop := r = none ∧ ∃ D' V : Cell, Blank "java/lang/String" a D' u ∧ Same D D' [fV.slot, fC.slot] ∧ D'.slots[fV.slot]? = some (.ref s.heap.size) ∧ D'.slots[fC.slot]? = some (.int 0) ∧ Arr .byte s.heap.size V u ∧ V.vm = .none ∧ u.vm.findClass "[B" = some V.cls ∧ V.slots.size = len ∧ (∀ j, j < len → V.slots[j]? = some (.int (lo8 (cv A (o + j))))) ∧ (∀ (y : Addr) (c : Cell), y ≠ a → s.heap[y]? = some c → u.heap[y]? = some c) ∧ u.heap.size = s.heap.size + 1
theorem Got.mv {a : Addr} {D A : Cell} {fV fC : Field} {o len : Nat} : ∀ r (U U' V V' : State), U'.heap = U.heap → V.vm.Alike V'.vm → V'.heap = V.heap → Got a D fV fC A o len r U V → Got a D fV fC A o len r U' V' :=
  fun r U U' V V' h1 hal h2 ⟨e0, D', X, a1, a2, a3, a4, a5, a6, a7, a8, a9, a10, a11⟩ => ⟨e0, D', X, a1.mv hal h2, a2, by rw [h1]; exact a3, a4, by rw [h1]; exact a5.mv hal h2, a6, by rw [hal.findClass]; exact a7, a8, a9, by rw [h1, h2]; exact a10, by rw [h1, h2]; exact a11⟩
namespace New4
def yN : MethodName := ⟨"java/lang/String", "<init>", "([CIILjava/lang/Void;)V"⟩
abbrev yB : ByteArray := jdk_42_method_149_code
theorem d0 : decode yB 0 = .ok (.aload_n 0, 1) := by decide +kernel
theorem d1 : decode yB 1 = .ok (.invokespecial 1, 3) := by decide +kernel
theorem d4 : decode yB 4 = .ok (.iload_n 3, 1) := by decide +kernel
theorem d5 : decode yB 5 = .ok (.ifCond (.ne) 22, 3) := by decide +kernel
theorem d27 : decode yB 27 = .ok (.getstatic 38, 3) := by decide +kernel
theorem d30 : decode yB 30 = .ok (.ifCond (.eq) 28, 3) := by decide +kernel
theorem d33 : decode yB 33 = .ok (.aload_n 1, 1) := by decide +kernel
theorem d34 : decode yB 34 = .ok (.iload_n 2, 1) := by decide +kernel
theorem d35 : decode yB 35 = .ok (.iload_n 3, 1) := by decide +kernel
theorem d36 : decode yB 36 = .ok (.invokestatic 177, 3) := by decide +kernel
theorem d39 : decode yB 39 = .ok (.astore 5, 2) := by decide +kernel
theorem d41 : decode yB 41 = .ok (.aload_n 0, 1) := by decide +kernel
theorem d42 : decode yB 42 = .ok (.aload 5, 2) := by decide +kernel
theorem d44 : decode yB 44 = .ok (.iload_n 3, 1) := by decide +kernel
theorem d45 : decode yB 45 = .ok (.invokestatic 47, 3) := by decide +kernel
theorem d48 : decode yB 48 = .ok (.putfield 15, 3) := by decide +kernel
theorem d51 : decode yB 51 = .ok (.aload_n 0, 1) := by decide +kernel
theorem d52 : decode yB 52 = .ok (.aload 5, 2) := by decide +kernel
theorem d54 : decode yB 54 = .ok (.putfield 9, 3) := by decide +kernel
theorem d57 : decode yB 57 = .ok (.return_, 1) := by decide +kernel
def site : List Cond := [.fieldLink "java/lang/String" 38 "java/lang/String" "COMPACT_STRINGS" "Z", Cmp3.tab, CodL.tab, .laysFinal "java/lang/String" "java/lang/String" "value" "[B", .fieldLink "java/lang/String" 9 "java/lang/String" "value" "[B", .laysFinal "java/lang/String" "java/lang/String" "coder" "B", .fieldLink "java/lang/String" 15 "java/lang/String" "coder" "B"] ++ objW "java/lang/String" 1 ++ staticW "java/lang/String" 177 Cmp3.yN ++ staticW "java/lang/String" 47 CodL.yN
def tab : Cond := tabOf yN yB 6 none site
def P (a : Addr) (D : Cell) (fV fC : Field) (b : Addr) (A : Cell) (z : Int32) (o len : Nat) (args : Array Value) (s : State) : Prop := args = #[.ref a, .ref b, .int (Int32.ofNat o), .int (Int32.ofNat len), .null] ∧ Blank "java/lang/String" a D s ∧ Found "java/lang/String" "value" "[B" fV s ∧ Found "java/lang/String" "coder" "B" fC s ∧ Ch b A s ∧ StaticIs s "java/lang/String" "COMPACT_STRINGS" "Z" (.int z) ∧ ¬ z = 0 ∧ 0 < len ∧ o + len ≤ A.slots.size ∧ len ≤ 536870912 ∧ ∀ i, i < len → ¬ 255 < cv A (o + i)
def E (a : Addr) (D : Cell) (fV fC : Field) (A : Cell) (o len : Nat) (r : Option Value) (s u : State) : Prop := Got a D fV fC A o len r s u
/-- len > 0, no char of the range above 255: a Latin-1 String of their low bytes -/
theorem law (l : Launch) (a : Addr) (D : Cell) (fV fC : Field) (b : Addr) (A : Cell) (z : Int32) (o len : Nat) : Law l yN 5 4 2 35 yB 6 none site (P a D fV fC b A z o len) (E a D fV fC A o len) [⟨a, fC.slot⟩, ⟨a, fV.slot⟩] 1 len := by
  refine Law.of_walk (plainFor_of_name (by decide +kernel)) (by decide +kernel) (by decide +kernel) (by decide) (fun _ _ h => by rw [h.1]; rfl) (fun _ U U' hal hh h => ⟨h.1, h.2.1.mv hal hh, h.2.2.1.al hal, h.2.2.2.1.al hal, h.2.2.2.2.1.mv hal hh, h.2.2.2.2.2.1.there hal hh, h.2.2.2.2.2.2⟩) (fun r U U' V V' h1 hal h2 h => Got.mv r U U' V V' h1 hal h2 h) ?_
  intro p e s m args below meth c s₁ X0 hexec hbytes hml hret hlk hnm hown hh0 W hP
  obtain ⟨rfl, hB, f1, f2, hA, s1, hz, l0, l1, l2, hp⟩ := hP
  have a31 := hA.1.2.2.2
  have c1 : Steps p.tables e below (s₁.setTop (entryFrame m #[.ref a, .ref b, .int (Int32.ofNat o), .int (Int32.ofNat len), .null] 6)) (s₁.setTop (mkF m 0 #[.val (.ref a), .val (.ref b), .val (.int (Int32.ofNat o)), .val (.int (Int32.ofNat len)), .val .null, .unset] [])) := entry rfl
  have c2 : Steps p.tables e below (s₁.setTop (entryFrame m #[.ref a, .ref b, .int (Int32.ofNat o), .int (Int32.ofNat len), .null] 6)) (s₁.setTop (mkF m 1 #[.val (.ref a), .val (.ref b), .val (.int (Int32.ofNat o)), .val (.int (Int32.ofNat len)), .val .null, .unset] [.ref a])) := c1.trans (by
    refine XS.aloadN X0.here hexec rfl (hb hbytes d0) rfl rfl ?_
    exact Steps.refl _)
  obtain ⟨T3, X3, q3, st3⟩ := X0.oinit hexec hown (wks W (objW "java/lang/String" 1)) (g := (mkF m 1 #[.val (.ref a), .val (.ref b), .val (.int (Int32.ofNat o)), .val (.int (Int32.ofNat len)), .val .null, .unset] [.ref a])) rfl (by rw [hml]; rfl) (rest := []) rfl (hb hbytes d1) (W := 0) (by show 2 * 0 + 0 ≤ _; decide) (Nat.le_of_ble_eq_true rfl) (Nat.le_of_ble_eq_true rfl)
  have hh3 := q3.trans hh0
  have c4 : Steps p.tables e below (s₁.setTop (entryFrame m #[.ref a, .ref b, .int (Int32.ofNat o), .int (Int32.ofNat len), .null] 6)) (T3.setTop (mkF m 27 #[.val (.ref a), .val (.ref b), .val (.int (Int32.ofNat o)), .val (.int (Int32.ofNat len)), .val .null, .unset] [])) := (c2.trans (st3 _ (Steps.refl _))).trans (by
    refine XS.iloadN X3.here hexec rfl (hb hbytes d4) rfl ?_
    refine XS.ifYes X3.here hexec rfl (pc0 := 5) rfl (hb hbytes d5) rfl (i0_ne_t (nz32 (by omega) l0)) (by decide) rfl ?_
    exact Steps.refl _)
  obtain ⟨T5, X5, q5, st5⟩ := X3.sget hexec hown (wk W (.fieldLink "java/lang/String" 38 "java/lang/String" "COMPACT_STRINGS" "Z")) s1 (fun _ _ h => by rw [hh3]; exact h) (g := (mkF m 27 #[.val (.ref a), .val (.ref b), .val (.int (Int32.ofNat o)), .val (.int (Int32.ofNat len)), .val .null, .unset] [])) rfl (hb hbytes d27)
  have hh5 := q5.trans hh3
  have c6 : Steps p.tables e below (s₁.setTop (entryFrame m #[.ref a, .ref b, .int (Int32.ofNat o), .int (Int32.ofNat len), .null] 6)) (T5.setTop (mkF m 30 #[.val (.ref a), .val (.ref b), .val (.int (Int32.ofNat o)), .val (.int (Int32.ofNat len)), .val .null, .unset] [.int z])) := c4.trans (st5 _ (Steps.refl _))
  have c7 : Steps p.tables e below (s₁.setTop (entryFrame m #[.ref a, .ref b, .int (Int32.ofNat o), .int (Int32.ofNat len), .null] 6)) (T5.setTop (mkF m 36 #[.val (.ref a), .val (.ref b), .val (.int (Int32.ofNat o)), .val (.int (Int32.ofNat len)), .val .null, .unset] [.int (Int32.ofNat len), .int (Int32.ofNat o), .ref b])) := c6.trans (by
    refine XS.ifNo X5.here hexec rfl (hb hbytes d30) rfl (i0_eq_f hz) ?_
    refine XS.aloadN X5.here hexec rfl (hb hbytes d33) rfl rfl ?_
    refine XS.iloadN X5.here hexec rfl (hb hbytes d34) rfl ?_
    refine XS.iloadN X5.here hexec rfl (hb hbytes d35) rfl ?_
    exact Steps.refl _)
  obtain ⟨v8, T8, X8, E8, g8⟩ := X5.callS hexec (Cmp3.law l b A o len) hown (wks W (staticW "java/lang/String" 177 Cmp3.yN)) (wk W Cmp3.tab) (W := 0) (Nat.le_of_ble_eq_true rfl) (Nat.le_of_ble_eq_true rfl) (Nat.le_refl _) (by show 0 + len ≤ len; omega) (g := (mkF m 36 #[.val (.ref a), .val (.ref b), .val (.int (Int32.ofNat o)), .val (.int (Int32.ofNat len)), .val .null, .unset] [.int (Int32.ofNat len), .int (Int32.ofNat o), .ref b])) rfl (by rw [hml]; rfl) c7 (argsL := [.ref b, .int (Int32.ofNat o), .int (Int32.ofNat len)]) (rest := []) rfl rfl (by show 2 * 0 + 0 ≤ _; decide) (hb hbytes d36) (⟨rfl, hA.mv X5.warmed.alike hh5, l1, l2, hp⟩)
  obtain ⟨e8, z8⟩ := E8
  obtain ⟨rfl, N, n1, n2, n3, n4, n5, n6⟩ := NewArr.mv _ T5 s _ _ hh5.symm (Vm.Alike.refl _) rfl e8
  rw [hh5] at z8
  have hB1 := hB.keep X8.warmed.alike (n6 _ _ hB.1)
  have hne : s.heap.size ≠ a := (Nat.ne_of_lt (Array.getElem?_eq_some_iff.mp hB.1).1).symm
  have c9 : Steps p.tables e below (s₁.setTop (entryFrame m #[.ref a, .ref b, .int (Int32.ofNat o), .int (Int32.ofNat len), .null] 6)) (T8.setTop (mkF m 39 #[.val (.ref a), .val (.ref b), .val (.int (Int32.ofNat o)), .val (.int (Int32.ofNat len)), .val .null, .unset] [.ref s.heap.size])) := g8
  have c10 : Steps p.tables e below (s₁.setTop (entryFrame m #[.ref a, .ref b, .int (Int32.ofNat o), .int (Int32.ofNat len), .null] 6)) (T8.setTop (mkF m 45 #[.val (.ref a), .val (.ref b), .val (.int (Int32.ofNat o)), .val (.int (Int32.ofNat len)), .val .null, .val (.ref s.heap.size)] [.int (Int32.ofNat N.slots.size), .ref s.heap.size, .ref a])) := by
    have hc : Steps p.tables e below (s₁.setTop (entryFrame m #[.ref a, .ref b, .int (Int32.ofNat o), .int (Int32.ofNat len), .null] 6)) (T8.setTop (mkF m 45 #[.val (.ref a), .val (.ref b), .val (.int (Int32.ofNat o)), .val (.int (Int32.ofNat len)), .val .null, .val (.ref s.heap.size)] [.int (Int32.ofNat len), .ref s.heap.size, .ref a])) := c9.trans (by
      refine XS.astore X8.here hexec rfl (hb hbytes d39) rfl rfl rfl ?_
      refine XS.aloadN X8.here hexec rfl (hb hbytes d41) rfl rfl ?_
      refine XS.aload X8.here hexec rfl (hb hbytes d42) rfl rfl ?_
      refine XS.iloadN X8.here hexec rfl (hb hbytes d44) rfl ?_
      exact Steps.refl _)
    rw [n4]; exact hc
  obtain ⟨v11, T11, X11, E11, g11⟩ := X8.callS hexec (CodL.law l s.heap.size N) hown (wks W (staticW "java/lang/String" 47 CodL.yN)) (wk W CodL.tab) (W := 1) (Nat.le_of_ble_eq_true rfl) (Nat.le_of_ble_eq_true rfl) (Nat.le_refl _) (by show 0 + len + 0 ≤ len; omega) (g := (mkF m 45 #[.val (.ref a), .val (.ref b), .val (.int (Int32.ofNat o)), .val (.int (Int32.ofNat len)), .val .null, .val (.ref s.heap.size)] [.int (Int32.ofNat N.slots.size), .ref s.heap.size, .ref a])) rfl (by rw [hml]; rfl) c10 (argsL := [.ref s.heap.size, .int (Int32.ofNat N.slots.size)]) (rest := [.ref a]) rfl rfl (by show 2 * 0 + (1 + 0) ≤ _; decide) (hb hbytes d45) (⟨rfl, n1⟩)
  obtain ⟨rfl, q11⟩ := E11
  have hB11 := hB1.mv (X8.warmed.alike.symm.trans X11.warmed.alike) q11
  have c12 : Steps p.tables e below (s₁.setTop (entryFrame m #[.ref a, .ref b, .int (Int32.ofNat o), .int (Int32.ofNat len), .null] 6)) (T11.setTop (mkF m 48 #[.val (.ref a), .val (.ref b), .val (.int (Int32.ofNat o)), .val (.int (Int32.ofNat len)), .val .null, .val (.ref s.heap.size)] [.int 0, .ref a])) := g11
  obtain ⟨T13, X13, p13, bl13, sl13, st13⟩ := X11.finit hexec hown (wk W (.fieldLink "java/lang/String" 15 "java/lang/String" "coder" "B")) (Or.inr ⟨_, (wk W (.laysFinal "java/lang/String" "java/lang/String" "coder" "B"))⟩) (Or.inl ⟨rfl, hnm⟩) f2 (Or.inl rfl) hB11 (t := .byte) (by decide +kernel) rfl (g := (mkF m 48 #[.val (.ref a), .val (.ref b), .val (.int (Int32.ofNat o)), .val (.int (Int32.ofNat len)), .val .null, .val (.ref s.heap.size)] [.int 0, .ref a])) rfl (rest := []) rfl (hb hbytes d48)
  have c14 : Steps p.tables e below (s₁.setTop (entryFrame m #[.ref a, .ref b, .int (Int32.ofNat o), .int (Int32.ofNat len), .null] 6)) (T13.setTop (mkF m 54 #[.val (.ref a), .val (.ref b), .val (.int (Int32.ofNat o)), .val (.int (Int32.ofNat len)), .val .null, .val (.ref s.heap.size)] [.ref s.heap.size, .ref a])) := (c12.trans (st13 _ (Steps.refl _))).trans (by
    refine XS.aloadN X13.here hexec rfl (hb hbytes d51) rfl rfl ?_
    refine XS.aload X13.here hexec rfl (hb hbytes d52) rfl rfl ?_
    exact Steps.refl _)
  obtain ⟨T15, X15, p15, bl15, sl15, st15⟩ := X13.finit hexec hown (wk W (.fieldLink "java/lang/String" 9 "java/lang/String" "value" "[B")) (Or.inr ⟨_, (wk W (.laysFinal "java/lang/String" "java/lang/String" "value" "[B"))⟩) (Or.inl ⟨rfl, hnm⟩) f1 (Or.inl rfl) bl13 (t := (.array .byte)) (by decide +kernel) rfl (g := (mkF m 54 #[.val (.ref a), .val (.ref b), .val (.int (Int32.ofNat o)), .val (.int (Int32.ofNat len)), .val .null, .val (.ref s.heap.size)] [.ref s.heap.size, .ref a])) rfl (rest := []) rfl (hb hbytes d54)
  have c16 : Steps p.tables e below (s₁.setTop (entryFrame m #[.ref a, .ref b, .int (Int32.ofNat o), .int (Int32.ofNat len), .null] 6)) (T15.setTop (mkF m 57 #[.val (.ref a), .val (.ref b), .val (.int (Int32.ofNat o)), .val (.int (Int32.ofNat len)), .val .null, .val (.ref s.heap.size)] [])) := c14.trans (st15 _ (Steps.refl _))
  have ap := apart (Or.inr ⟨_, (wk W (.laysFinal "java/lang/String" "java/lang/String" "value" "[B"))⟩) (Or.inr ⟨_, (wk W (.laysFinal "java/lang/String" "java/lang/String" "coder" "B"))⟩) f1 f2 (t₁ := .array .byte) (t₂ := .byte) (by decide +kernel) (by decide +kernel) (by decide)
  have al := X8.warmed.alike.symm.trans X15.warmed.alike
  have n7 : T11.heap[s.heap.size]? = some N := by rw [q11]; exact n1.1
  exact ⟨T15, none, _, _, _, X15, by simp, rfl, by omega, (fun _ => rfl), ⟨rfl, _, N, bl15, ((Same.refl D _).set _ (by simp)).set _ (by simp), sl15, (Cell.slots_setSlot_ne _ ap).trans sl13, n1.keep al (p15.other hne (p13.other hne n7)), n2, by rw [al.findClass]; exact n3, n4, n5, fun y c h1 h2 => p15.other h1 (p13.other h1 (by rw [q11]; exact n6 y c h2)), by rw [p15.2.2, p13.2.2, q11]; exact z8⟩, fun fs hl => c16.trans (X15.returnOut hexec hret (hb hbytes d57) hl)⟩
end New4
namespace New1
def yN : MethodName := ⟨"java/lang/String", "<init>", "([C)V"⟩
abbrev yB : ByteArray := jdk_42_method_3_code
theorem d0 : decode yB 0 = .ok (.aload_n 0, 1) := by decide +kernel
theorem d1 : decode yB 1 = .ok (.aload_n 1, 1) := by decide +kernel
theorem d2 : decode yB 2 = .ok (.iconst 0, 1) := by decide +kernel
theorem d3 : decode yB 3 = .ok (.aload_n 1, 1) := by decide +kernel
theorem d4 : decode yB 4 = .ok (.arraylength, 1) := by decide +kernel
theorem d5 : decode yB 5 = .ok (.aconst_null, 1) := by decide +kernel
theorem d6 : decode yB 6 = .ok (.invokespecial 27, 3) := by decide +kernel
theorem d9 : decode yB 9 = .ok (.return_, 1) := by decide +kernel
def site : List Cond := [New4.tab] ++ initW "java/lang/String" 27 New4.yN
def tab : Cond := tabOf yN yB 2 none site
def P (a : Addr) (D : Cell) (fV fC : Field) (b : Addr) (A : Cell) (z : Int32) (args : Array Value) (s : State) : Prop := args = #[.ref a, .ref b] ∧ Blank "java/lang/String" a D s ∧ Found "java/lang/String" "value" "[B" fV s ∧ Found "java/lang/String" "coder" "B" fC s ∧ Ch b A s ∧ StaticIs s "java/lang/String" "COMPACT_STRINGS" "Z" (.int z) ∧ ¬ z = 0 ∧ 0 < A.slots.size ∧ A.slots.size ≤ 536870912 ∧ ∀ i, i < A.slots.size → ¬ 255 < cv A i
def E (a : Addr) (D : Cell) (fV fC : Field) (A : Cell) (r : Option Value) (s u : State) : Prop := Got a D fV fC A 0 A.slots.size r s u
/-- new String(chars), not empty, no char above 255: a Latin-1 String of their low bytes -/
theorem law (l : Launch) (a : Addr) (D : Cell) (fV fC : Field) (b : Addr) (A : Cell) (z : Int32) : Law l yN 2 1 3 52 yB 2 none site (P a D fV fC b A z) (E a D fV fC A) [⟨a, fC.slot⟩, ⟨a, fV.slot⟩] 1 A.slots.size := by
  refine Law.of_walk (plainFor_of_name (by decide +kernel)) (by decide +kernel) (by decide +kernel) (by decide) (fun _ _ h => by rw [h.1]; rfl) (fun _ U U' hal hh h => ⟨h.1, h.2.1.mv hal hh, h.2.2.1.al hal, h.2.2.2.1.al hal, h.2.2.2.2.1.mv hal hh, h.2.2.2.2.2.1.there hal hh, h.2.2.2.2.2.2⟩) (fun r U U' V V' h1 hal h2 h => Got.mv r U U' V V' h1 hal h2 h) ?_
  intro p e s m args below meth c s₁ X0 hexec hbytes hml hret hlk hnm hown hh0 W hP
  obtain ⟨rfl, hB, f1, f2, hA, s1, hz, l0, l2, hp⟩ := hP
  have c1 : Steps p.tables e below (s₁.setTop (entryFrame m #[.ref a, .ref b] 2)) (s₁.setTop (mkF m 0 #[.val (.ref a), .val (.ref b)] [])) := entry rfl
  have c2 : Steps p.tables e below (s₁.setTop (entryFrame m #[.ref a, .ref b] 2)) (s₁.setTop (mkF m 6 #[.val (.ref a), .val (.ref b)] [.null, .int (Int32.ofNat A.slots.size), .int 0, .ref b, .ref a])) := c1.trans (by
    refine XS.aloadN X0.here hexec rfl (hb hbytes d0) rfl rfl ?_
    refine XS.aloadN X0.here hexec rfl (hb hbytes d1) rfl rfl ?_
    refine iconstV X0.here hexec rfl 0 (hb hbytes d2) (by decide) ?_
    refine XS.aloadN X0.here hexec rfl (hb hbytes d3) rfl rfl ?_
    refine X0.alen hexec (hA.1.mv X0.warmed.alike hh0) rfl rfl (hb hbytes d4) ?_
    refine XS.aconstNull X0.here hexec rfl (hb hbytes d5) ?_
    exact Steps.refl _)
  obtain ⟨v3, T3, X3, E3, g3⟩ := X0.callN hexec (New4.law l a D fV fC b A z 0 A.slots.size) rfl hown (wks W (initW "java/lang/String" 27 New4.yN)) (W New4.tab (by simp only [site, List.mem_cons, List.mem_append, true_or, or_true])) (W := 0) (Nat.le_of_ble_eq_true rfl) (Nat.le_of_ble_eq_true rfl) (Nat.le_refl _) (by show 0 + A.slots.size ≤ A.slots.size; omega) (g := (mkF m 6 #[.val (.ref a), .val (.ref b)] [.null, .int (Int32.ofNat A.slots.size), .int (Int32.ofNat 0), .ref b, .ref a])) rfl (by rw [hml]; rfl) c2 (argsL := [.ref b, .int (Int32.ofNat 0), .int (Int32.ofNat A.slots.size), .null]) (rest := []) rfl rfl (by show 2 * 0 + 0 ≤ _; decide) (hb hbytes d6) (⟨rfl, hB.mv X0.warmed.alike hh0, f1.al X0.warmed.alike, f2.al X0.warmed.alike, hA.mv X0.warmed.alike hh0, s1.there X0.warmed.alike hh0, hz, l0, by omega, l2, fun i hi => by rw [Nat.zero_add]; exact hp i hi⟩)
  have e0 := Got.mv _ s₁ s _ _ hh0.symm (Vm.Alike.refl _) rfl E3
  obtain rfl := e0.1
  have c4 : Steps p.tables e below (s₁.setTop (entryFrame m #[.ref a, .ref b] 2)) (T3.setTop (mkF m 9 #[.val (.ref a), .val (.ref b)] [])) := g3
  exact ⟨T3, none, _, _, _, X3, by simp, rfl, by omega, (fun _ => rfl), e0, fun fs hl => c4.trans (X3.returnOut hexec hret (hb hbytes d9) hl)⟩
theorem pays {l : Launch} {R : Room} {p : Program} {e : Env} {below : List Frame} {s : State} {sargs : Array Value} {len W : Nat} (a : Addr) (D : Cell) (fV fC : Field) (b : Addr) (A : Cell) (z : Int32) (htab : tab.before sargs s = true) (hfr : 4 ≤ R.frames) (hlo : W + 65 ≤ R.locals) :
    Back l R p e below s sargs yN len W (fun A₁ a₁ => A₁.cells + 1 ≤ R.cells ∧ A₁.slots + A.slots.size ≤ R.slots ∧ P a D fV fC b A z a₁ A₁.U) (fun A₁ _ v₁ B₁ => E a D fV fC A v₁ A₁.U B₁.U ∧ B₁.locs = A₁.locs ++ [⟨a, fC.slot⟩, ⟨a, fV.slot⟩] ∧ B₁.cells = A₁.cells + 1 ∧ B₁.slots = A₁.slots + A.slots.size) :=
  (law l a D fV fC b A z).pays htab hfr (by omega)
end New1
/-- the byte, read back as charAt reads it, is the char -/
theorem lo8_mask {x : Int32} (h0 : ¬ x < 0) (h1 : ¬ 255 < x) : lo8 x &&& 255 = x := by
  have t : ∀ k : Fin 256, lo8 (Int32.ofNat k.val) &&& 255 = Int32.ofNat k.val := by decide +kernel
  rw [Int32.lt_iff_toInt_lt] at h0 h1
  have e0 : (0 : Int32).toInt = 0 := rfl
  have e1 : (255 : Int32).toInt = 255 := rfl
  obtain ⟨k, hk⟩ : ∃ k : Nat, x.toInt = k := ⟨x.toInt.toNat, by omega⟩
  have hx : x = Int32.ofNat k := Int32.toInt_inj.mp (by rw [hk, Int32.toInt_ofNat_small (by omega)])
  rw [hx]
  exact t ⟨k, by omega⟩
end StrChars
namespace StrChars.Road
open Jvm Sem ClassFile Op Lib Jvm.Stand Jvm.Free Jvm.Free.XT
open Jvm.Lib.Cold (StaticIs)
abbrev ST : String := "java/lang/String"
/-- every table word that New1's law asks, flat -/
abbrev words : List Jvm.Cond := [.code New1.yN New1.yB 2 none, .initialized ST, .methodLink ST 27 New4.yN, .instanceMethod New4.yN,
  .code New4.yN New4.yB 6 none, .fieldLink ST 38 ST "COMPACT_STRINGS" "Z", .laysFinal ST ST "value" "[B", .fieldLink ST 9 ST "value" "[B", .laysFinal ST ST "coder" "B", .fieldLink ST 15 ST "coder" "B",
  .methodLink ST 1 Lib.objectInit, .instanceMethod Lib.objectInit, .code Lib.objectInit ⟨#[0xb1]⟩ 1 none, .methodLink ST 177 Cmp3.yN, .static Cmp3.yN, .methodLink ST 47 CodL.yN, .static CodL.yN,
  .code Cmp3.yN Cmp3.yB 6 (some (.array .byte)), .initialized U16, .arrayClass .byte, .methodLink U16 115 Cmp5.yN, .static Cmp5.yN, .code Cmp5.yN Cmp5.yB 7 (some .int), .code CodL.yN CodL.yB 2 (some .byte)]
theorem tab_of {a : Array Value} {s : State} (h : ∀ w ∈ words, w.before a s = true) : New1.tab.before a s = true := by
  have h5 : Cmp5.tab.before a s = true := unparts (wk h (.code Cmp5.yN Cmp5.yB 7 (some .int))) (wks h (.initialized Cmp5.yN.cls :: Cmp5.site))
  have hc : CodL.tab.before a s = true := unparts (wk h (.code CodL.yN CodL.yB 2 (some .byte))) (wks h (.initialized CodL.yN.cls :: CodL.site))
  have q5 : ∀ w ∈ Cmp5.tab :: words, w.before a s = true := fun w hw => (List.mem_cons.mp hw).elim (fun e => e ▸ h5) (h w)
  have h3 : Cmp3.tab.before a s = true := unparts (wk q5 (.code Cmp3.yN Cmp3.yB 6 (some (.array .byte)))) (wks q5 (.initialized Cmp3.yN.cls :: Cmp3.site))
  have q3 : ∀ w ∈ Cmp3.tab :: CodL.tab :: words, w.before a s = true := fun w hw => (List.mem_cons.mp hw).elim (fun e => e ▸ h3) fun hw => (List.mem_cons.mp hw).elim (fun e => e ▸ hc) (h w)
  have h4 : New4.tab.before a s = true := unparts (wk q3 (.code New4.yN New4.yB 6 none)) (wks q3 (.initialized New4.yN.cls :: New4.site))
  have q4 : ∀ w ∈ New4.tab :: words, w.before a s = true := fun w hw => (List.mem_cons.mp hw).elim (fun e => e ▸ h4) (h w)
  exact unparts (wk q4 (.code New1.yN New1.yB 2 none)) (wks q4 (.initialized New1.yN.cls :: New1.site))
/-- the words ride from the start Z to the walk's own state -/
theorem moved {Z s : State} {a0 args : Array Value} (hZ : Z.Warmed39 s.vm) (hw : ∀ d ∈ words, d.before a0 Z = true) : ∀ d ∈ words, d.before args s = true := fun d hd => by
  have q := hw d hd
  have t : ∀ d ∈ words, d = .arrayClass .byte ∨ (d.onTables && d.keepsFace) = true := by decide +kernel
  rcases t d hd with rfl | t
  · exact RoadKit.mvA hZ q
  · exact RoadKit.mv hZ q t
/-- WHAT COMES BACK, over the tables of the start Z: h the heap at the call, h' behind it -/
def Q (Z : State) (x : Addr) (A : Cell) (h : Heap) (v : Option Value) (h' : Heap) (L : List Loc) : Prop := v = none ∧ (∀ y ∈ L, y.base = x) ∧ RoadKit.Keep h h' [x] ∧ h'.size = h.size + 1 ∧ RoadKit.Exa Z h' x ST ∧ RoadKit.Fld Z h' x ST "value" "[B" (.ref h.size) ∧ RoadKit.Fld Z h' x ST "coder" "B" (.int 0) ∧
  (∃ V : Cell, RoadKit.Arr Z h' h.size V .byte ∧ V.vm = .none ∧ Z.vm.findClass "[B" = some V.cls ∧ V.slots.size = A.slots.size ∧ ∀ j, j < A.slots.size → V.slots[j]? = some (.int (lo8 (cv A j)))) ∧
  ∀ (O n d : String) (w : Value), RoadKit.Fld Z h x O n d w → RoadKit.slotOf Z O n d ≠ RoadKit.slotOf Z ST "value" "[B" → RoadKit.slotOf Z O n d ≠ RoadKit.slotOf Z ST "coder" "B" → RoadKit.Fld Z h' x O n d w
/-- **new String(chars) AT A CALL, IN THE ROAD'S FORM**: for specialBack behind newO: x the fresh String, b the char[] with the cell A -/
theorem back {p : Program} {l : Launch} {e : Env} {R : Room} {s : State} {args : Array Value} {below : List Frame} {len W : Nat} {Z : State} {a0 : Array Value} {h : Heap} (hZ : Z.Warmed39 s.vm) (hw : ∀ d ∈ words, d.before a0 Z = true) {kI : Nat} (wi : (Jvm.Cond.instantiable ST kI).before a0 Z = true)
    {x b : Addr} {A : Cell} {z : Int32} {v0 c0 : Value} (E : RoadKit.Exa Z h x ST) (V : RoadKit.Fld Z h x ST "value" "[B" v0) (C : RoadKit.Fld Z h x ST "coder" "B" c0) (K : RoadKit.Arr Z h b A .char) (hty : Typed .char A) (S : RoadKit.Sta Z h ST "COMPACT_STRINGS" "Z" (.int z)) (hz : ¬ z = 0)
    (l0 : 0 < A.slots.size) (l2 : A.slots.size ≤ 536870912) (hp : ∀ i, i < A.slots.size → ¬ 255 < cv A i) (hfr : 4 ≤ R.frames) (hlo : W + 65 ≤ R.locals) :
    Back l R p e below s args New1.yN len W (fun P a => a = #[.ref x, .ref b] ∧ P.U.heap = h ∧ P.cells + 1 ≤ R.cells ∧ P.slots + A.slots.size ≤ R.slots)
      (fun P _ v B => ∃ L, Q Z x A h v B.U.heap L ∧ B.locs = P.locs ++ L ∧ B.cells = P.cells + 1 ∧ B.slots = P.slots + A.slots.size) := by
  intro m meth c P g ig mk a X hg hsize hdg hW hn hp'
  obtain ⟨rfl, rfl, r1, r2⟩ := hp'
  have al : Z.vm.Alike P.U.vm := hZ.alike.trans X.warmed.alike
  obtain ⟨D, cfV, kV, iV, fV, hD, gV, stV, knV, obV, asV, slV⟩ := id V
  obtain ⟨D', cfC, kC, iC, fC, hD', gC, stC, -, -, asC, slC⟩ := id C
  cases hD.symm.trans hD'
  obtain ⟨D2, kD, e1, e2, e3, e4, e5⟩ := id E
  cases hD.symm.trans e1
  obtain ⟨c2, k2, i1, i2, i3, -⟩ := Cond.instantiable_spec wi
  cases e2.symm.trans i1
  cases e3.symm.trans i2
  obtain ⟨kU, u1, u2⟩ := al.2.2 _ _ e3
  have hB : Blank ST x D P.U := ⟨hD, ⟨knV, fun q hq => by rw [hq] at obV; cases obV⟩, by rw [al.findClass]; exact e2, kU, u1, by rw [u2]; exact i3, by rw [u2]; exact e5 i3⟩
  have F1 : Found ST "value" "[B" fV P.U := ⟨SBG.found_only al ⟨cfV, kV, iV, gV⟩, stV⟩
  have F2 : Found ST "coder" "B" fC P.U := ⟨SBG.found_only al ⟨cfC, kC, iC, gC⟩, stC⟩
  have hA : Ch b A P.U := ⟨⟨K.1, State.isArrayOf_alike al K.2.1, K.2.2, by omega⟩, hty⟩
  have hS : StaticIs P.U ST "COMPACT_STRINGS" "Z" (.int z) := by
    obtain ⟨cfS, iS, kS, fS, st, cS, t1, t2, t3, t4, t5, t6, t7⟩ := S
    exact StaticIs.there (s := { Z with heap := P.U.heap }) ⟨cfS, iS, kS, fS, st, cS, t1, t2, t3, t4, t5, (fun q => by rw [q] at t6; cases t6), t7⟩ al rfl
  obtain ⟨v, B, X', ⟨⟨hv, E', V', q1, q2, q3, q4, q5, q6, q7, q8, q9, q10, q11⟩, hl, hc, hs⟩, st⟩ := New1.pays x D fV fC b A z (tab_of (moved hZ hw)) hfr hlo m meth c P g ig mk _ X hg hsize hdg hW hn ⟨r1, r2, rfl, hB, F1, F2, hA, hS, hz, l0, l2, hp⟩
  have al' : Z.vm.Alike B.U.vm := hZ.alike.trans X'.warmed.alike
  have hsz : E'.slots.size = D.slots.size := by
    obtain ⟨-, -, -, kB, w1, w2, w3⟩ := q1
    obtain ⟨kB', y1, y2⟩ := al'.2.2 _ _ e3
    rw [q2.2.1] at w1
    cases w1.symm.trans y1
    rw [w3, e5 i3, y2]
  refine ⟨v, B, X', ⟨_, ⟨hv, ?_, ⟨by omega, fun y cy hy hn' => q10 y cy (by simpa using hn') hy, fun y cy hy => ?_⟩, q11, ⟨E', _, q1.1, by rw [q2.2.1]; exact e2, by rw [q2.2.1]; exact e3, by rw [q2.1]; exact obV, fun _ => by rw [hsz]; exact e5 i3⟩,
    ⟨E', cfV, kV, iV, fV, q1.1, gV, stV, by rw [q2.1]; exact knV, by rw [q2.1]; exact obV, by rw [q2.2.1]; exact asV, q3⟩, ⟨E', cfC, kC, iC, fC, q1.1, gC, stC, by rw [q2.1]; exact knV, by rw [q2.1]; exact obV, by rw [q2.2.1]; exact asC, q4⟩,
    ⟨V', ⟨q5.1, State.isArrayOf_alike al'.symm q5.2.1, q5.2.2.1⟩, q6, by rw [← al'.findClass]; exact q7, q8, fun j hj => by have := q9 j hj; rwa [Nat.zero_add] at this⟩, fun O n d w F n1 n2 => ?_⟩, hl, hc, hs⟩, st⟩
  · intro y hy
    simp only [List.mem_cons, List.not_mem_nil, or_false] at hy
    rcases hy with rfl | rfl <;> rfl
  · by_cases q : y = x
    · subst q
      cases hD.symm.trans hy
      exact ⟨E', q1.1, q2.2.1, q2.1, hsz⟩
    · exact ⟨cy, q10 y cy q hy, rfl, rfl, rfl⟩
  · obtain ⟨D3, cf, k, i, f, g1, g2, g3, g4, g5, g6, g7⟩ := F
    cases hD.symm.trans g1
    simp only [RoadKit.slotOf, g2, gV, gC, Option.map_some, Option.getD_some] at n1 n2
    exact ⟨E', cf, k, i, f, q1.1, g2, g3, by rw [q2.1]; exact g4, by rw [q2.1]; exact g5, by rw [q2.2.1]; exact g6, by rw [q2.2.2 f.slot (by simp [n1, n2])]; exact g7⟩
end StrChars.Road
namespace StrChars.Road
open Jvm Sem ClassFile Op Lib Jvm.Stand Jvm.Free Jvm.Free.XT
/-- WHAT COMES BACK, the byte[] as a list of values -/
def QA (Z : State) (x : Addr) (zn : Int32) (cs : List Int32) (h : Heap) (v : Option Value) (h' : Heap) (L : List Loc) : Prop := v = none ∧ (∀ y ∈ L, y.base = x) ∧ RoadKit.Keep h h' [x] ∧ h'.size = h.size + 1 ∧ RoadKit.Exa Z h' x ST ∧ RoadKit.Fld Z h' x ST "value" "[B" (.ref h.size) ∧ RoadKit.Fld Z h' x ST "coder" "B" (.int 0) ∧
  (∃ kb, Z.vm.findClass "[B" = some kb ∧ RoadKit.Arv Z h' h.size kb .byte zn (cs.map fun c => .int (lo8 c)) (.int 0)) ∧
  ∀ (O n d : String) (w : Value), RoadKit.Fld Z h x O n d w → RoadKit.slotOf Z O n d ≠ RoadKit.slotOf Z ST "value" "[B" → RoadKit.slotOf Z O n d ≠ RoadKit.slotOf Z ST "coder" "B" → RoadKit.Fld Z h' x O n d w
/-- **new String(chars) AT A CALL, THE ARRAYS AS LISTS**: the char[] at b holds cs, not empty, no char above 255 -/
theorem backArv {p : Program} {l : Launch} {e : Env} {R : Room} {s : State} {args : Array Value} {below : List Frame} {len W : Nat} {Z : State} {a0 : Array Value} {h : Heap} (hZ : Z.Warmed39 s.vm) (hw : ∀ d ∈ words, d.before a0 Z = true) {kI : Nat} (wi : (Jvm.Cond.instantiable ST kI).before a0 Z = true)
    {x b : Addr} {k : ClassId} {zn z : Int32} {cs : List Int32} {dv v0 c0 : Value} (E : RoadKit.Exa Z h x ST) (V : RoadKit.Fld Z h x ST "value" "[B" v0) (C : RoadKit.Fld Z h x ST "coder" "B" c0) (K : RoadKit.Arv Z h b k .char zn (cs.map Value.int) dv) (S : RoadKit.Sta Z h ST "COMPACT_STRINGS" "Z" (.int z)) (hz : ¬ z = 0)
    (hlen : zn.toNatClampNeg = cs.length) (h0 : 0 < cs.length) (hbig : cs.length ≤ 536870912) (hall : ∀ c ∈ cs, ¬ 255 < c) (hfr : 4 ≤ R.frames) (hlo : W + 65 ≤ R.locals) :
    Back l R p e below s args New1.yN len W (fun P a => a = #[.ref x, .ref b] ∧ P.U.heap = h ∧ P.cells + 1 ≤ R.cells ∧ P.slots + cs.length ≤ R.slots)
      (fun P _ v B => ∃ L, QA Z x zn cs h v B.U.heap L ∧ B.locs = P.locs ++ L ∧ B.cells = P.cells + 1 ∧ B.slots = P.slots + cs.length) := by
  obtain ⟨A, K1, K2, K3, K4, K5, K6⟩ := K
  have e : A.slots.size = cs.length := K3.trans hlen
  have hat : ∀ (i : Nat) (hi : i < cs.length), A.slots[i]? = some (.int cs[i]) := fun i hi => by rw [K5 i (by omega)]; simp [List.getD_eq_getElem?_getD, hi]
  have hcv : ∀ (i : Nat) (hi : i < cs.length), cv A i = cs[i] := fun i hi => by unfold cv; rw [hat i hi]
  have hty : Typed .char A := fun i v hv => by
    have hi : i < A.slots.size := (Array.getElem?_eq_some_iff.mp hv).1
    have q := K5 i hi
    rw [hv] at q
    rw [Option.some.inj q]
    exact K6 i hi
  refine Back.mono (back hZ hw wi E V C K1 hty S hz (by omega) (by omega) (fun i hi => by rw [hcv i (by omega)]; exact hall _ (List.getElem_mem _)) hfr hlo) (fun P a hp => ⟨hp.1, hp.2.1, hp.2.2.1, by rw [e]; exact hp.2.2.2⟩) (fun P a v B hp hq => ?_)
  obtain ⟨L, ⟨q1, q2, q3, q4, q5, q6, q7, ⟨V', v1, v2, v3, v4, v5⟩, q9⟩, hl, hc, hs⟩ := hq
  refine ⟨L, ⟨q1, q2, q3, q4, q5, q6, q7, ⟨V'.cls, v3, V', v1, rfl, by rw [v4, e, hlen], K4, fun i hi => ?_, fun i hi => ?_⟩, q9⟩, hl, hc, by rw [hs, e]⟩
  · have hi' : i < cs.length := by omega
    rw [v5 i (by omega), hcv i hi']; simp [List.getD_eq_getElem?_getD, hi']
  · have hi' : i < cs.length := by omega
    simp only [List.getD_eq_getElem?_getD, List.getElem?_map, List.getElem?_eq_getElem hi', Option.map_some, Option.getD_some]
    exact fits_lo8 _
end StrChars.Road
namespace StrChars.Road
open Jvm Sem ClassFile Op Lib Jvm.Stand Jvm.Free Jvm.Free.XT
/-- WHAT COMES BACK, in the writer's own shape -/
def QV (Z : State) (x : Addr) (N : Int32) (bs : List Int32) (h : Heap) (n0 : Nat) (v : Option Value) (h' : Heap) (L : List Loc) : Prop := v = none ∧ RoadKit.Fr n0 L ∧ RoadKit.Keep h h' [x] ∧ RoadKit.Exa Z h' x ST ∧ RoadKit.Fld Z h' x ST "coder" "B" (.int 0) ∧
  ∃ (t : Addr) (kb : ClassId), n0 ≤ t ∧ h.size ≤ t ∧ ¬ t = x ∧ RoadKit.Fld Z h' x ST "value" "[B" (.ref t) ∧ RoadKit.Arv Z h' t kb .byte N (bs.map Value.int) (.int 0)
/-- **new String(chars) AT A CALL, FOR THE WRITER**: a char[] of n known ints, each 0 to 255 -/
theorem backV {p : Program} {l : Launch} {e : Env} {R : Room} {s : State} {args : Array Value} {below : List Frame} {len W : Nat} {Z : State} {a0 : Array Value} {h : Heap} (hZ : Z.Warmed39 s.vm) (hw : ∀ d ∈ words, d.before a0 Z = true) {kI : Nat} (wi : (Jvm.Cond.instantiable ST kI).before a0 Z = true)
    {x b : Addr} {kC : ClassId} {cs bs : List Int32} {d v0 c0 : Value} {z N : Int32} {n n0 : Nat} (hx0 : n0 ≤ x) (hh0 : n0 ≤ h.size) (E : RoadKit.Exa Z h x ST) (V : RoadKit.Fld Z h x ST "value" "[B" v0) (C : RoadKit.Fld Z h x ST "coder" "B" c0) (K : RoadKit.Arv Z h b kC .char N (cs.map Value.int) d) (S : RoadKit.Sta Z h ST "COMPACT_STRINGS" "Z" (.int z)) (hz : ¬ z = 0)
    (hn : cs.length = n) (hN : N = Int32.ofNat n) (l0 : 0 < n) (l2 : n ≤ 4000) (hp : ∀ c ∈ cs, ¬ c < 0 ∧ ¬ (255 : Int32) < c) (hb : bs = cs.map (fun c => c.toInt8.toInt32)) (hfr : 4 ≤ R.frames) (hlo : W + 65 ≤ R.locals) :
    Back l R p e below s args (⟨"java/lang/String", "<init>", "([C)V"⟩ : MethodName) len W (fun P a => a = #[.ref x, .ref b] ∧ P.U.heap = h ∧ P.cells + 1 ≤ R.cells ∧ P.slots + n ≤ R.slots)
      (fun P _ v B => ∃ L, QV Z x N bs h n0 v B.U.heap L ∧ B.locs = P.locs ++ L ∧ B.cells = P.cells + 1 ∧ B.slots = P.slots + n) := by
  subst hn hN hb
  refine Back.mono (backArv hZ hw wi E V C K S hz (n32 (by omega)) l0 (by omega) (fun c hc => (hp c hc).2) hfr hlo) (fun P a hp => hp) (fun P a v B hp hq => ?_)
  obtain ⟨L, ⟨q1, q2, q3, q4, q5, q6, q7, ⟨kb, v1, v2⟩, q9⟩, hl, hc, hs⟩ := hq
  exact ⟨L, ⟨q1, fun y hy => by rw [q2 y hy]; exact hx0, q3, q5, q7, h.size, kb, hh0, Nat.le_refl _, Nat.ne_of_gt E.lt, q6, by rw [List.map_map]; exact v2⟩, hl, hc, hs⟩
end StrChars.Road
namespace StrChars
open Jvm Sem ClassFile Op Lib Jvm.Stand Jvm.Free.XT Jvm.Free.ALB Jvm.Free.JM Jvm.Free
open Jvm.Lib.Cold (StaticIs)
def hi8 (x : Int32) : Int32 := lo8 (x >>> ((8 : Int32) &&& 31))
/-- what StringUTF16.getChar makes of two bytes -/
def pairCh (u v : Int32) : Int32 := (((u &&& 255) <<< ((0 : Int32) &&& 31)) ||| ((v &&& 255) <<< ((8 : Int32) &&& 31))).toUInt32.toUInt16.toUInt32.toInt32
theorem shr0 (c : Int32) : c >>> ((0 : Int32) &&& 31) = c := by
  have e : ((0 : Int32) &&& 31) = 0 := by decide
  rw [e]
  apply Int32.toBitVec_inj.mp
  rw [Int32.toBitVec_shiftRight]
  have e1 : ((0 : Int32).toBitVec.smod 32) = 0#32 := by decide
  rw [e1, BitVec.sshiftRight_eq']
  exact BitVec.sshiftRight_zero
theorem lo8_and (x : Int32) : (lo8 x &&& 255).toBitVec.toNat = x.toBitVec.toNat % 256 := by
  have h : (lo8 x).toBitVec = (x.toBitVec.signExtend 8).signExtend 32 := by rw [lo8, Int8.toBitVec_toInt32, Int32.toBitVec_toInt8]
  rw [Int32.toBitVec_and, BitVec.toNat_and, h]
  have e : ((x.toBitVec.signExtend 8).signExtend 32).toNat % 256 = x.toBitVec.toNat % 256 := by
    rw [BitVec.toNat_signExtend]
    have hlt := x.toBitVec.isLt
    simp only [BitVec.toNat_setWidth, BitVec.toNat_signExtend]
    split <;> split <;> omega
  rw [← e]
  exact Nat.and_two_pow_sub_one_eq_mod _ 8
theorem pair_says {c : Int32} (h0 : ¬ c < 0) (h1 : ¬ 65535 < c) : pairCh (lo8 c) (hi8 c) = c := by
  rw [Int32.lt_iff_toInt_lt] at h0 h1
  have e0 : (0 : Int32).toInt = 0 := rfl
  have e1 : (65535 : Int32).toInt = 65535 := rfl
  have hc : c.toInt = c.toBitVec.toNat := by
    have := c.toBitVec.isLt
    have e : c.toInt = c.toBitVec.toInt := rfl
    rw [e] at h0 h1
    rw [e]
    rw [BitVec.toInt_eq_toNat_cond] at h0 h1 ⊢
    split at h0 <;> split <;> omega
  have hn : c.toBitVec.toNat < 65536 := by omega
  have a1 := lo8_and c
  have a2 : (hi8 c &&& 255).toBitVec.toNat = c.toBitVec.toNat / 256 := by
    rw [hi8, lo8_and]
    have e : ((8 : Int32) &&& 31) = 8 := by decide
    rw [e, Int32.toBitVec_shiftRight]
    have e2 : ((8 : Int32).toBitVec.smod 32) = 8#32 := by decide
    rw [e2, BitVec.sshiftRight_eq', BitVec.toNat_sshiftRight_of_msb_false (by rw [BitVec.msb_eq_false_iff_two_mul_lt]; omega)]
    show c.toBitVec.toNat >>> 8 % 256 = _
    rw [Nat.shiftRight_eq_div_pow]
    omega
  unfold pairCh
  apply Int32.toBitVec_inj.mp
  apply BitVec.eq_of_toNat_eq
  have f0 : ((0 : Int32) &&& 31) = 0 := by decide
  have f8 : ((8 : Int32) &&& 31) = 8 := by decide
  rw [f0, f8]
  have g : (((lo8 c &&& 255) <<< (0 : Int32)) ||| ((hi8 c &&& 255) <<< (8 : Int32))).toBitVec.toNat = c.toBitVec.toNat := by
    rw [Int32.toBitVec_or, Int32.toBitVec_shiftLeft, Int32.toBitVec_shiftLeft]
    have s0 : ((0 : Int32).toBitVec.smod 32) = 0#32 := by decide
    have s8 : ((8 : Int32).toBitVec.smod 32) = 8#32 := by decide
    rw [s0, s8, BitVec.toNat_or]
    simp only [BitVec.shiftLeft_eq', BitVec.toNat_shiftLeft, a1, a2]
    show (c.toBitVec.toNat % 256) <<< 0 % 2 ^ 32 ||| (c.toBitVec.toNat / 256) <<< 8 % 2 ^ 32 = _
    rw [Nat.shiftLeft_zero, Nat.mod_eq_of_lt (show c.toBitVec.toNat % 256 < 2 ^ 32 by omega), Nat.mod_eq_of_lt (show (c.toBitVec.toNat / 256) <<< 8 < 2 ^ 32 by rw [Nat.shiftLeft_eq]; omega), Nat.or_comm, ← Nat.shiftLeft_add_eq_or_of_lt (by omega), Nat.shiftLeft_eq]
    omega
  show BitVec.toNat (((((lo8 c &&& 255) <<< (0 : Int32)) ||| ((hi8 c &&& 255) <<< (8 : Int32))).toBitVec.setWidth 16).setWidth 32) = _
  rw [BitVec.toNat_setWidth, BitVec.toNat_setWidth, g]
  omega
end StrChars
namespace StrChars
open Jvm Sem ClassFile Op Lib Jvm.Stand Jvm.Free.XT Jvm.Free.ALB Jvm.Free.JM Jvm.Free
open Jvm.Lib.Cold (StaticIs)
theorem shr1 {n : Nat} (h : 2 * n < 2 ^ 31) : Int32.ofNat (2 * n) >>> ((1 : Int32) &&& 31) = Int32.ofNat n := by
  have e : ((1 : Int32) &&& 31) = 1 := by decide
  rw [e]
  apply Int32.toBitVec_inj.mp
  rw [Int32.toBitVec_shiftRight]
  have e1 : ((1 : Int32).toBitVec.smod 32) = 1#32 := by decide
  have hm : (BitVec.ofNat 32 (2 * n)).toNat = 2 * n := by rw [BitVec.toNat_ofNat, Nat.mod_eq_of_lt (by omega)]
  rw [e1, BitVec.sshiftRight_eq']
  apply BitVec.eq_of_toNat_eq
  show ((BitVec.ofNat 32 (2 * n)).sshiftRight 1).toNat = (BitVec.ofNat 32 n).toNat
  rw [BitVec.toNat_sshiftRight_of_msb_false (by rw [BitVec.msb_eq_false_iff_two_mul_lt, hm]; omega), hm, BitVec.toNat_ofNat, Nat.shiftRight_eq_div_pow]
  omega
/-- charAt's cast of a byte read back -/
def chr8 (u : Int32) : Int32 := (u &&& 255).toUInt32.toUInt16.toUInt32.toInt32
theorem chr8_lo8 {c : Int32} (h0 : ¬ c < 0) (h1 : ¬ 255 < c) : chr8 (lo8 c) = c := by
  have t : ∀ k : Fin 256, (Int32.ofNat k.val).toUInt32.toUInt16.toUInt32.toInt32 = Int32.ofNat k.val := by decide +kernel
  unfold chr8
  rw [lo8_mask h0 h1]
  rw [Int32.lt_iff_toInt_lt] at h0 h1
  have e0 : (0 : Int32).toInt = 0 := rfl
  have e1 : (255 : Int32).toInt = 255 := rfl
  obtain ⟨k, hk⟩ : ∃ k : Nat, c.toInt = k := ⟨c.toInt.toNat, by omega⟩
  have hx : c = Int32.ofNat k := Int32.toInt_inj.mp (by rw [hk, Int32.toInt_ofNat_small (by omega)])
  rw [hx]
  exact t ⟨k, by omega⟩
theorem narrow_ch {c : Int32} (h0 : ¬ c < 0) (h1 : ¬ 65535 < c) : narrow .char (.int c) = .int c := by
  have q : narrow .char (.int (pairCh (lo8 c) (hi8 c))) = .int (pairCh (lo8 c) (hi8 c)) := narrow_c _
  rwa [pair_says h0 h1] at q
/-- the array's cell V codes the n chars f 0 .. f (n - 1) by the coder cd, as the JDK does: coder 1 just where some char is above 255 -/
def Cod (cd : Int32) (n : Nat) (f : Nat → Int32) (V : Cell) : Prop := (cd = 0 ∧ V.slots.size = n ∧ ∀ j, j < n → V.slots[j]? = some (.int (lo8 (f j))) ∧ ¬ 255 < f j) ∨ (cd = 1 ∧ V.slots.size = 2 * n ∧ (∀ j, j < n → V.slots[2 * j]? = some (.int (lo8 (f j))) ∧ V.slots[2 * j + 1]? = some (.int (hi8 (f j)))) ∧ ∃ j, j < n ∧ 255 < f j)
theorem Cod.cd {cd : Int32} {n : Nat} {f : Nat → Int32} {V : Cell} (h : Cod cd n f V) : cd = 0 ∨ cd = 1 := h.imp (fun q => q.1) fun q => q.1
theorem Cod.len {cd : Int32} {n : Nat} {f : Nat → Int32} {V : Cell} (h : Cod cd n f V) (hs : V.slots.size < 2 ^ 31) : Int32.ofNat V.slots.size >>> (cd &&& 31) = Int32.ofNat n := by
  rcases h with ⟨rfl, h, -⟩ | ⟨rfl, h, -⟩
  · rw [shr0, h]
  · rw [h, shr1 (by omega)]
/-- **x is a String of the n chars f 0 .. f (n - 1)**, Latin-1 or UTF-16; its array at t has the cell V -/
def Txt (x t : Addr) (V : Cell) (cd : Int32) (n : Nat) (f : Nat → Int32) (U : State) : Prop := Exact "java/lang/String" x U ∧ Has x "java/lang/String" "value" "[B" (.ref t) U ∧ Has x "java/lang/String" "coder" "B" (.int cd) U ∧ XT.Arr .byte t V U ∧ Cod cd n f V ∧ ∀ j, j < n → ¬ f j < 0 ∧ ¬ 65535 < f j
theorem Txt.mv {x t : Addr} {V : Cell} {cd : Int32} {n : Nat} {f : Nat → Int32} {U U' : State} (h : Txt x t V cd n f U) (hal : U.vm.Alike U'.vm) (hh : U'.heap = U.heap) : Txt x t V cd n f U' := ⟨h.1.mv hal hh, h.2.1.mv hal hh, h.2.2.1.mv hal hh, h.2.2.2.1.mv hal hh, h.2.2.2.2⟩
namespace Cdr
def yN : MethodName := ⟨"java/lang/String", "coder", "()B"⟩
abbrev yB : ByteArray := jdk_42_method_152_code
theorem d0 : decode yB 0 = .ok (.getstatic 38, 3) := by decide +kernel
theorem d3 : decode yB 3 = .ok (.ifCond (.eq) 10, 3) := by decide +kernel
theorem d6 : decode yB 6 = .ok (.aload_n 0, 1) := by decide +kernel
theorem d7 : decode yB 7 = .ok (.getfield 15, 3) := by decide +kernel
theorem d10 : decode yB 10 = .ok (.goto 4, 3) := by decide +kernel
theorem d14 : decode yB 14 = .ok (.ireturn, 1) := by decide +kernel
def site : List Cond := [.fieldLink "java/lang/String" 38 "java/lang/String" "COMPACT_STRINGS" "Z", .fieldLink "java/lang/String" 15 "java/lang/String" "coder" "B"]
def tab : Cond := tabOf yN yB 1 (some .byte) site
def P (x : Addr) (cd z : Int32) (args : Array Value) (s : State) : Prop := args = #[.ref x] ∧ Has x "java/lang/String" "coder" "B" (.int cd) s ∧ (cd = 0 ∨ cd = 1) ∧ StaticIs s "java/lang/String" "COMPACT_STRINGS" "Z" (.int z) ∧ ¬ z = 0
def E (cd : Int32) (r : Option Value) (s u : State) : Prop := XT.PureE (some (.int cd)) r s u
theorem law (l : Launch) (x : Addr) (cd z : Int32) : Law l yN 1 0 0 0 yB 1 (some .byte) site (P x cd z) (E cd) [] 0 0 := by
  refine Law.of_walk (plainFor_of_name (by decide +kernel)) (by decide +kernel) (by decide +kernel) (by decide) (fun _ _ h => by rw [h.1]; rfl) (fun _ U U' hal hh h => ⟨h.1, h.2.1.mv hal hh, h.2.2.1, h.2.2.2.1.there hal hh, h.2.2.2.2⟩) (fun r U U' V V' h1 hal h2 h => XT.PureE.mv r U U' V V' h1 hal h2 h) ?_
  intro p e s m args below meth c s₁ X0 hexec hbytes hml hret hlk hnm hown hh0 W hP
  obtain ⟨rfl, hx, hc, s1, hz⟩ := hP
  have c1 : Steps p.tables e below (s₁.setTop (entryFrame m #[.ref x] 1)) (s₁.setTop (mkF m 0 #[.val (.ref x)] [])) := entry rfl
  obtain ⟨T2, X2, q2, st2⟩ := X0.sget hexec hown (wk W (.fieldLink "java/lang/String" 38 "java/lang/String" "COMPACT_STRINGS" "Z")) s1 (fun _ _ h => by rw [hh0]; exact h) (g := (mkF m 0 #[.val (.ref x)] [])) rfl (hb hbytes d0)
  have hh2 := q2.trans hh0
  have c3 : Steps p.tables e below (s₁.setTop (entryFrame m #[.ref x] 1)) (T2.setTop (mkF m 7 #[.val (.ref x)] [.ref x])) := (c1.trans (st2 _ (Steps.refl _))).trans (by
    refine XS.ifNo X2.here hexec rfl (hb hbytes d3) rfl (i0_eq_f hz) ?_
    refine XS.aloadN X2.here hexec rfl (hb hbytes d6) rfl rfl ?_
    exact Steps.refl _)
  obtain ⟨T4, X4, q4, st4⟩ := X2.hget hexec hown (wk W (.fieldLink "java/lang/String" 15 "java/lang/String" "coder" "B")) (hx.mv X2.warmed.alike hh2) (g := (mkF m 7 #[.val (.ref x)] [.ref x])) rfl (rest := []) rfl (hb hbytes d7)
  have c5 : Steps p.tables e below (s₁.setTop (entryFrame m #[.ref x] 1)) (T4.setTop (mkF m 14 #[.val (.ref x)] [.int cd])) := (c3.trans (st4 _ (Steps.refl _))).trans (by
    refine XS.goto X4.here hexec rfl (pc0 := 10) rfl (hb hbytes d10) (by decide) rfl ?_
    exact Steps.refl _)
  exact ⟨T4, some (.int cd), _, _, _, X4, rfl, rfl, rfl, (fun h => by cases h), ⟨rfl, q4.trans hh2⟩, fun fs hl => c5.trans (X4.ireturnOut hexec hret (by rcases hc with rfl | rfl <;> rfl) (Or.inr (Or.inr (Or.inl rfl))) (hb hbytes d14) hl)⟩
end Cdr
namespace Len
def yN : MethodName := ⟨"java/lang/String", "length", "()I"⟩
abbrev yB : ByteArray := jdk_42_method_54_code
theorem d0 : decode yB 0 = .ok (.aload_n 0, 1) := by decide +kernel
theorem d1 : decode yB 1 = .ok (.getfield 9, 3) := by decide +kernel
theorem d4 : decode yB 4 = .ok (.arraylength, 1) := by decide +kernel
theorem d5 : decode yB 5 = .ok (.aload_n 0, 1) := by decide +kernel
theorem d6 : decode yB 6 = .ok (.invokevirtual 335, 3) := by decide +kernel
theorem d9 : decode yB 9 = .ok (.ishr, 1) := by decide +kernel
theorem d10 : decode yB 10 = .ok (.ireturn, 1) := by decide +kernel
def site : List Cond := [.fieldLink "java/lang/String" 9 "java/lang/String" "value" "[B", Cdr.tab] ++ virtW "java/lang/String" 335 "java/lang/String" Cdr.yN Cdr.yN
def tab : Cond := tabOf yN yB 1 (some .int) site
def P (x t : Addr) (V : Cell) (cd : Int32) (n : Nat) (f : Nat → Int32) (z : Int32) (args : Array Value) (s : State) : Prop := args = #[.ref x] ∧ Txt x t V cd n f s ∧ StaticIs s "java/lang/String" "COMPACT_STRINGS" "Z" (.int z) ∧ ¬ z = 0
def E (n : Nat) (r : Option Value) (s u : State) : Prop := XT.PureE (some (.int (Int32.ofNat n))) r s u
/-- length() of a String of n chars, in either coding -/
theorem law (l : Launch) (x t : Addr) (V : Cell) (cd : Int32) (n : Nat) (f : Nat → Int32) (z : Int32) : Law l yN 1 0 1 13 yB 1 (some .int) site (P x t V cd n f z) (E n) [] 0 0 := by
  refine Law.of_walk (plainFor_of_name (by decide +kernel)) (by decide +kernel) (by decide +kernel) (by decide) (fun _ _ h => by rw [h.1]; rfl) (fun _ U U' hal hh h => ⟨h.1, h.2.1.mv hal hh, h.2.2.1.there hal hh, h.2.2.2⟩) (fun r U U' V V' h1 hal h2 h => XT.PureE.mv r U U' V V' h1 hal h2 h) ?_
  intro p e s m args below meth c s₁ X0 hexec hbytes hml hret hlk hnm hown hh0 W hP
  obtain ⟨rfl, hx, s1, hz⟩ := hP
  have v31 := hx.2.2.2.1.2.2.2
  have c1 : Steps p.tables e below (s₁.setTop (entryFrame m #[.ref x] 1)) (s₁.setTop (mkF m 1 #[.val (.ref x)] [.ref x])) := Steps.trans (entry rfl) (by
    show Steps p.tables e below (s₁.setTop (mkF m 0 #[.val (.ref x)] [])) _
    refine XS.aloadN X0.here hexec rfl (hb hbytes d0) rfl rfl ?_
    exact Steps.refl _)
  obtain ⟨T2, X2, q2, st2⟩ := X0.hget hexec hown (wk W (.fieldLink "java/lang/String" 9 "java/lang/String" "value" "[B")) (hx.mv X0.warmed.alike hh0).2.1 (g := (mkF m 1 #[.val (.ref x)] [.ref x])) rfl (rest := []) rfl (hb hbytes d1)
  have hh2 := q2.trans hh0
  have hx2 := hx.mv X2.warmed.alike hh2
  have c3 : Steps p.tables e below (s₁.setTop (entryFrame m #[.ref x] 1)) (T2.setTop (mkF m 6 #[.val (.ref x)] [.ref x, .int (Int32.ofNat V.slots.size)])) := (c1.trans (st2 _ (Steps.refl _))).trans (by
    refine X2.alen hexec hx2.2.2.2.1 rfl rfl (hb hbytes d4) ?_
    refine XS.aloadN X2.here hexec rfl (hb hbytes d5) rfl rfl ?_
    exact Steps.refl _)
  obtain ⟨v4, T4, X4, E4, g4⟩ := X2.callV hexec (Cdr.law l x cd z) hown (wks W (virtW "java/lang/String" 335 "java/lang/String" Cdr.yN Cdr.yN)) rfl (by decide) (wk W Cdr.tab) (W := 1) (Nat.le_of_ble_eq_true rfl) (Nat.le_of_ble_eq_true rfl) (Nat.le_refl _) (Nat.le_refl _) (hx2.1.fc X2.warmed.alike) hx2.1.is (g := (mkF m 6 #[.val (.ref x)] [.ref x, .int (Int32.ofNat V.slots.size)])) rfl (by rw [hml]; rfl) c3 (argsL := []) (rest := [.int (Int32.ofNat V.slots.size)]) rfl rfl (by show 2 * 0 + (1 + 0) ≤ _; decide) (hb hbytes d6) (⟨rfl, hx2.2.2.1, hx.2.2.2.2.1.cd, s1.there X2.warmed.alike hh2, hz⟩)
  obtain ⟨rfl, q4⟩ := E4
  have c5 : Steps p.tables e below (s₁.setTop (entryFrame m #[.ref x] 1)) (T4.setTop (mkF m 10 #[.val (.ref x)] [.int (Int32.ofNat V.slots.size >>> (cd &&& 31))])) := Steps.trans g4 (by
    refine ishr X4.here hexec rfl (hb hbytes d9) rfl ?_
    exact Steps.refl _)
  rw [hx.2.2.2.2.1.len v31] at c5
  exact ⟨T4, some (.int (Int32.ofNat n)), _, _, _, X4, rfl, rfl, rfl, (fun h => by cases h), ⟨rfl, q4.trans hh2⟩, fun fs hl => c5.trans (X4.ireturnOut hexec hret rfl (Or.inl rfl) (hb hbytes d10) hl)⟩
theorem pays {l : Launch} {R : Room} {p : Program} {e : Env} {below : List Frame} {s : State} {sargs : Array Value} {len W : Nat} (x t : Addr) (V : Cell) (cd : Int32) (n : Nat) (f : Nat → Int32) (z : Int32) (htab : tab.before sargs s = true) (hfr : 2 ≤ R.frames) (hlo : W + 25 ≤ R.locals) :
    Back l R p e below s sargs yN len W (fun A₁ a₁ => A₁.cells + 0 ≤ R.cells ∧ A₁.slots + 0 ≤ R.slots ∧ P x t V cd n f z a₁ A₁.U) (fun A₁ _ v₁ B₁ => E n v₁ A₁.U B₁.U ∧ B₁.locs = A₁.locs ++ [] ∧ B₁.cells = A₁.cells + 0 ∧ B₁.slots = A₁.slots + 0) :=
  (law l x t V cd n f z).pays htab hfr (by omega)
end Len
namespace IsL
def yN : MethodName := ⟨"java/lang/String", "isLatin1", "()Z"⟩
abbrev yB : ByteArray := jdk_42_method_154_code
theorem d0 : decode yB 0 = .ok (.getstatic 38, 3) := by decide +kernel
theorem d3 : decode yB 3 = .ok (.ifCond (.eq) 14, 3) := by decide +kernel
theorem d6 : decode yB 6 = .ok (.aload_n 0, 1) := by decide +kernel
theorem d7 : decode yB 7 = .ok (.getfield 15, 3) := by decide +kernel
theorem d10 : decode yB 10 = .ok (.ifCond (.ne) 7, 3) := by decide +kernel
theorem d13 : decode yB 13 = .ok (.iconst 1, 1) := by decide +kernel
theorem d14 : decode yB 14 = .ok (.goto 4, 3) := by decide +kernel
theorem d17 : decode yB 17 = .ok (.iconst 0, 1) := by decide +kernel
theorem d18 : decode yB 18 = .ok (.ireturn, 1) := by decide +kernel
def site : List Cond := [.fieldLink "java/lang/String" 38 "java/lang/String" "COMPACT_STRINGS" "Z", .fieldLink "java/lang/String" 15 "java/lang/String" "coder" "B"]
def tab : Cond := tabOf yN yB 1 (some .boolean) site
def P (x : Addr) (cd z : Int32) (args : Array Value) (s : State) : Prop := args = #[.ref x] ∧ Has x "java/lang/String" "coder" "B" (.int cd) s ∧ (cd = 0 ∨ cd = 1) ∧ StaticIs s "java/lang/String" "COMPACT_STRINGS" "Z" (.int z) ∧ ¬ z = 0
def E (cd : Int32) (r : Option Value) (s u : State) : Prop := XT.PureE (some (.int (1 - cd))) r s u
theorem law (l : Launch) (x : Addr) (cd z : Int32) : Law l yN 1 0 0 0 yB 1 (some .boolean) site (P x cd z) (E cd) [] 0 0 := by
  refine Law.of_walk (plainFor_of_name (by decide +kernel)) (by decide +kernel) (by decide +kernel) (by decide) (fun _ _ h => by rw [h.1]; rfl) (fun _ U U' hal hh h => ⟨h.1, h.2.1.mv hal hh, h.2.2.1, h.2.2.2.1.there hal hh, h.2.2.2.2⟩) (fun r U U' V V' h1 hal h2 h => XT.PureE.mv r U U' V V' h1 hal h2 h) ?_
  intro p e s m args below meth c s₁ X0 hexec hbytes hml hret hlk hnm hown hh0 W hP
  obtain ⟨rfl, hx, hc, s1, hz⟩ := hP
  have c1 : Steps p.tables e below (s₁.setTop (entryFrame m #[.ref x] 1)) (s₁.setTop (mkF m 0 #[.val (.ref x)] [])) := entry rfl
  obtain ⟨T2, X2, q2, st2⟩ := X0.sget hexec hown (wk W (.fieldLink "java/lang/String" 38 "java/lang/String" "COMPACT_STRINGS" "Z")) s1 (fun _ _ h => by rw [hh0]; exact h) (g := (mkF m 0 #[.val (.ref x)] [])) rfl (hb hbytes d0)
  have hh2 := q2.trans hh0
  have c3 : Steps p.tables e below (s₁.setTop (entryFrame m #[.ref x] 1)) (T2.setTop (mkF m 7 #[.val (.ref x)] [.ref x])) := (c1.trans (st2 _ (Steps.refl _))).trans (by
    refine XS.ifNo X2.here hexec rfl (hb hbytes d3) rfl (i0_eq_f hz) ?_
    refine XS.aloadN X2.here hexec rfl (hb hbytes d6) rfl rfl ?_
    exact Steps.refl _)
  obtain ⟨T4, X4, q4, st4⟩ := X2.hget hexec hown (wk W (.fieldLink "java/lang/String" 15 "java/lang/String" "coder" "B")) (hx.mv X2.warmed.alike hh2) (g := (mkF m 7 #[.val (.ref x)] [.ref x])) rfl (rest := []) rfl (hb hbytes d7)
  have c5 : Steps p.tables e below (s₁.setTop (entryFrame m #[.ref x] 1)) (T4.setTop (mkF m 10 #[.val (.ref x)] [.int cd])) := c3.trans (st4 _ (Steps.refl _))
  have c6 : Steps p.tables e below (s₁.setTop (entryFrame m #[.ref x] 1)) (T4.setTop (mkF m 18 #[.val (.ref x)] [.int (1 - cd)])) := by
    rcases hc with rfl | rfl
    · exact c5.trans (by
        refine XS.ifNo X4.here hexec rfl (hb hbytes d10) rfl (i0_ne_f rfl) ?_
        refine iconstV X4.here hexec rfl 1 (hb hbytes d13) (by decide) ?_
        refine XS.goto X4.here hexec rfl (pc0 := 14) rfl (hb hbytes d14) (by decide) rfl ?_
        exact Steps.refl _)
    · exact c5.trans (by
        refine XS.ifYes X4.here hexec rfl (pc0 := 10) rfl (hb hbytes d10) rfl (i0_ne_t (by decide)) (by decide) rfl ?_
        refine iconstV X4.here hexec rfl 0 (hb hbytes d17) (by decide) ?_
        exact Steps.refl _)
  exact ⟨T4, some (.int (1 - cd)), _, _, _, X4, rfl, rfl, rfl, (fun h => by cases h), ⟨rfl, q4.trans hh2⟩, fun fs hl => c6.trans (X4.ireturnOut hexec hret (by rcases hc with rfl | rfl <;> rfl) (Or.inr (Or.inl rfl)) (hb hbytes d18) hl)⟩
end IsL
namespace LChA
def yN : MethodName := ⟨"java/lang/StringLatin1", "charAt", "([BI)C"⟩
abbrev yB : ByteArray := jdk_43_method_2_code
theorem d0 : decode yB 0 = .ok (.iload_n 1, 1) := by decide +kernel
theorem d1 : decode yB 1 = .ok (.aload_n 0, 1) := by decide +kernel
theorem d2 : decode yB 2 = .ok (.arraylength, 1) := by decide +kernel
theorem d3 : decode yB 3 = .ok (.invokestatic 9, 3) := by decide +kernel
theorem d6 : decode yB 6 = .ok (.aload_n 0, 1) := by decide +kernel
theorem d7 : decode yB 7 = .ok (.iload_n 1, 1) := by decide +kernel
theorem d8 : decode yB 8 = .ok (.baload, 1) := by decide +kernel
theorem d9 : decode yB 9 = .ok (.sipush 255, 3) := by decide +kernel
theorem d12 : decode yB 12 = .ok (.iand, 1) := by decide +kernel
theorem d13 : decode yB 13 = .ok (.i2c, 1) := by decide +kernel
theorem d14 : decode yB 14 = .ok (.ireturn, 1) := by decide +kernel
def site : List Cond := [JO.Str_checkIndex.tab] ++ staticW "java/lang/StringLatin1" 9 JO.Str_checkIndex.yN
def tab : Cond := tabOf yN yB 2 (some .char) site
def P (t : Addr) (V : Cell) (i : Nat) (u : Int32) (fm : Value) (args : Array Value) (s : State) : Prop := args = #[.ref t, .int (Int32.ofNat i)] ∧ XT.Arr .byte t V s ∧ V.slots[i]? = some (.int u) ∧ (StaticIs s "jdk/internal/util/Preconditions" "SIOOBE_FORMATTER" "Ljava/util/function/BiFunction;" fm ∧ fm.isRef = true)
def E (u : Int32) (r : Option Value) (s w : State) : Prop := XT.PureE (some (.int (chr8 u))) r s w
theorem law (l : Launch) (t : Addr) (V : Cell) (i : Nat) (u : Int32) (fm : Value) : Law l yN 2 2 2 27 yB 2 (some .char) site (P t V i u fm) (E u) [] 0 0 := by
  refine Law.of_walk (plainFor_of_name (by decide +kernel)) (by decide +kernel) (by decide +kernel) (by decide) (fun _ _ h => by rw [h.1]; rfl) (fun _ U U' hal hh h => ⟨h.1, h.2.1.mv hal hh, h.2.2.1, h.2.2.2.1.there hal hh, h.2.2.2.2⟩) (fun r U U' V V' h1 hal h2 h => XT.PureE.mv r U U' V V' h1 hal h2 h) ?_
  intro p e s m args below meth c s₁ X0 hexec hbytes hml hret hlk hnm hown hh0 W hP
  obtain ⟨rfl, hV, hu, s1, rf⟩ := hP
  have v31 := hV.2.2.2
  have hi : i < V.slots.size := (Array.getElem?_eq_some_iff.mp hu).1
  have c1 : Steps p.tables e below (s₁.setTop (entryFrame m #[.ref t, .int (Int32.ofNat i)] 2)) (s₁.setTop (mkF m 0 #[.val (.ref t), .val (.int (Int32.ofNat i))] [])) := entry rfl
  have c2 : Steps p.tables e below (s₁.setTop (entryFrame m #[.ref t, .int (Int32.ofNat i)] 2)) (s₁.setTop (mkF m 3 #[.val (.ref t), .val (.int (Int32.ofNat i))] [.int (Int32.ofNat V.slots.size), .int (Int32.ofNat i)])) := c1.trans (by
    refine XS.iloadN X0.here hexec rfl (hb hbytes d0) rfl ?_
    refine XS.aloadN X0.here hexec rfl (hb hbytes d1) rfl rfl ?_
    refine X0.alen hexec (hV.mv X0.warmed.alike hh0) rfl rfl (hb hbytes d2) ?_
    exact Steps.refl _)
  obtain ⟨v3, T3, X3, E3, g3⟩ := X0.callS hexec (JO.Str_checkIndex.law l (Int32.ofNat i) (Int32.ofNat V.slots.size) fm) hown (wks W (staticW "java/lang/StringLatin1" 9 JO.Str_checkIndex.yN)) (wk W JO.Str_checkIndex.tab) (W := 0) (Nat.le_of_ble_eq_true rfl) (Nat.le_of_ble_eq_true rfl) (Nat.le_refl _) (Nat.le_refl _) (g := (mkF m 3 #[.val (.ref t), .val (.int (Int32.ofNat i))] [.int (Int32.ofNat V.slots.size), .int (Int32.ofNat i)])) rfl (by rw [hml]; rfl) c2 (argsL := [.int (Int32.ofNat i), .int (Int32.ofNat V.slots.size)]) (rest := []) rfl rfl (by show 2 * 0 + 0 ≤ _; decide) (hb hbytes d3) (⟨rfl, rf, s1.there X0.warmed.alike hh0, Int32.ofNat_not_neg (by omega), lt32 v31 hi⟩)
  obtain ⟨rfl, q3⟩ := E3
  have hh3 := q3.trans hh0
  have c4 : Steps p.tables e below (s₁.setTop (entryFrame m #[.ref t, .int (Int32.ofNat i)] 2)) (T3.setTop (mkF m 14 #[.val (.ref t), .val (.int (Int32.ofNat i))] [.int (chr8 u)])) := Steps.trans g3 (by
    refine XS.aloadN X3.here hexec rfl (hb hbytes d6) rfl rfl ?_
    refine XS.iloadN X3.here hexec rfl (hb hbytes d7) rfl ?_
    refine X3.aget hexec (hV.mv X3.warmed.alike hh3) rfl hu rfl rfl (hb hbytes d8) ?_
    refine sipushV X3.here hexec rfl 255 (hb hbytes d9) (by decide) ?_
    refine XS.iand X3.here hexec rfl (hb hbytes d12) rfl ?_
    refine i2c X3.here hexec rfl (hb hbytes d13) rfl ?_
    exact Steps.refl _)
  exact ⟨T3, some (.int (chr8 u)), _, _, _, X3, rfl, rfl, rfl, (fun h => by cases h), ⟨rfl, hh3⟩, fun fs hl => c4.trans (X3.ireturnOut hexec hret (narrow_c _) (Or.inr (Or.inr (Or.inr (Or.inl rfl)))) (hb hbytes d14) hl)⟩
end LChA
end StrChars
namespace StrChars.Road
open Jvm Sem ClassFile Op Lib Jvm.Stand Jvm.Free Jvm.Free.XT
open Jvm.Lib.Cold (StaticIs)
theorem consq {a : Array Value} {s : State} {c : Jvm.Cond} {L : List Jvm.Cond} (h0 : c.before a s = true) (h : ∀ w ∈ L, w.before a s = true) : ∀ w ∈ c :: L, w.before a s = true := fun w hw => (List.mem_cons.mp hw).elim (fun e => e ▸ h0) (h w)
/-- the words of String.length(), either coding -/
abbrev wordsLen : List Jvm.Cond := [.code Len.yN Len.yB 1 (some .int), .initialized ST, .fieldLink ST 9 ST "value" "[B", .fieldLink ST 38 ST "COMPACT_STRINGS" "Z", .fieldLink ST 15 ST "coder" "B", .code Cdr.yN Cdr.yB 1 (some .byte), .methodLink ST 335 Cdr.yN, .declares Cdr.yN, .selects ST Cdr.yN Cdr.yN, .instanceMethod Cdr.yN]
theorem tabLen_of {a : Array Value} {s : State} (h : ∀ w ∈ wordsLen, w.before a s = true) : Len.tab.before a s = true := by
  have hc : Cdr.tab.before a s = true := unparts (wk h (.code Cdr.yN Cdr.yB 1 (some .byte))) (wks h (.initialized Cdr.yN.cls :: Cdr.site))
  have q := consq hc h
  exact unparts (wk q (.code Len.yN Len.yB 1 (some .int))) (wks q (.initialized Len.yN.cls :: Len.site))
theorem movedLen {Z s : State} {a0 args : Array Value} (hZ : Z.Warmed39 s.vm) (hw : ∀ d ∈ wordsLen, d.before a0 Z = true) : ∀ d ∈ wordsLen, d.before args s = true := fun d hd => by
  have q := hw d hd
  have t : ∀ d ∈ wordsLen, d = .arrayClass .byte ∨ (d.onTables && d.keepsFace) = true := by decide +kernel
  rcases t d hd with rfl | t
  · exact RoadKit.mvA hZ q
  · exact RoadKit.mv hZ q t
/-- the bytes of the chars cs, low before high -/
def wideBytes : List Int32 → List Value
  | [] => []
  | c :: cs => .int (lo8 c) :: .int (hi8 c) :: wideBytes cs
theorem wide_lo (d : Value) : ∀ (cs : List Int32) (j : Nat), j < cs.length → (wideBytes cs).getD (2 * j) d = .int (lo8 (cs.getD j 0))
  | [], j, h => absurd h (Nat.not_lt_zero j)
  | c :: cs, 0, _ => rfl
  | c :: cs, j + 1, h => by
    have q := wide_lo d cs j (by simpa using h)
    rw [show 2 * (j + 1) = 2 * j + 1 + 1 from by omega]
    simpa [wideBytes] using q
theorem wide_hi (d : Value) : ∀ (cs : List Int32) (j : Nat), j < cs.length → (wideBytes cs).getD (2 * j + 1) d = .int (hi8 (cs.getD j 0))
  | [], j, h => absurd h (Nat.not_lt_zero j)
  | c :: cs, 0, _ => rfl
  | c :: cs, j + 1, h => by
    have q := wide_hi d cs j (by simpa using h)
    rw [show 2 * (j + 1) + 1 = 2 * j + 1 + 1 + 1 from by omega]
    simpa [wideBytes] using q
theorem low_at (d : Value) (cs : List Int32) (j : Nat) (h : j < cs.length) : (cs.map fun c => Value.int (lo8 c)).getD j d = .int (lo8 (cs.getD j 0)) := by
  simp [List.getD_eq_getElem?_getD, h]
/-- an array of N2 bytes vs codes the chars cs by the coder cd -/
def CodA (cs : List Int32) (cd N2 : Int32) (vs : List Value) : Prop := (cd = 0 ∧ N2 = Int32.ofNat cs.length ∧ vs = (cs.map fun c => Value.int (lo8 c)) ∧ ∀ c ∈ cs, ¬ 255 < c) ∨ (cd = 1 ∧ N2 = Int32.ofNat (2 * cs.length) ∧ vs = wideBytes cs ∧ ∃ c ∈ cs, 255 < c)
theorem CodA.cod {cs : List Int32} {cd N2 : Int32} {vs : List Value} {V : Cell} (h : CodA cs cd N2 vs) (hn : 2 * cs.length < 2 ^ 31) (hs : V.slots.size = N2.toNatClampNeg) (hv : RoadKit.Has V vs (.int 0)) : Cod cd cs.length (fun j => cs.getD j 0) V := by
  rcases h with ⟨rfl, rfl, rfl, h⟩ | ⟨rfl, rfl, rfl, c, hc, hw⟩
  · rw [n32 (by omega)] at hs
    exact Or.inl ⟨rfl, hs, fun j hj => ⟨by rw [hv j (by omega), low_at _ _ _ hj], by
      have e : cs.getD j 0 = cs[j] := by simp [List.getD_eq_getElem?_getD, hj]
      show ¬ 255 < cs.getD j 0
      rw [e]; exact h _ (List.getElem_mem _)⟩⟩
  · rw [n32 (by omega)] at hs
    obtain ⟨j, hj, rfl⟩ := List.getElem_of_mem hc
    exact Or.inr ⟨rfl, hs, fun j hj => ⟨by rw [hv _ (by omega), wide_lo _ _ _ hj], by rw [hv _ (by omega), wide_hi _ _ _ hj]⟩, j, hj, by
      have e : cs.getD j 0 = cs[j] := by simp [List.getD_eq_getElem?_getD, hj]
      show 255 < cs.getD j 0
      rw [e]; exact hw⟩
/-- an object of exactly java/lang/String, its two fields found: as the laws ask it -/
theorem strObj {Z U : State} {a0 : Array Value} {kI : Nat} (wi : (Jvm.Cond.instantiable ST kI).before a0 Z = true) (al : Z.vm.Alike U.vm) {x : Addr} {v0 c0 : Value} (E : RoadKit.Exa Z U.heap x ST) (V : RoadKit.Fld Z U.heap x ST "value" "[B" v0) (C : RoadKit.Fld Z U.heap x ST "coder" "B" c0) :
    ∃ (D : Cell) (fV fC : Field), Blank ST x D U ∧ Found ST "value" "[B" fV U ∧ Found ST "coder" "B" fC U ∧ D.slots[fV.slot]? = some v0 ∧ D.slots[fC.slot]? = some c0 ∧ RoadKit.slotOf Z ST "value" "[B" = fV.slot ∧ RoadKit.slotOf Z ST "coder" "B" = fC.slot := by
  obtain ⟨D, cfV, kV, iV, fV, hD, gV, stV, knV, obV, asV, slV⟩ := V
  obtain ⟨D', cfC, kC, iC, fC, hD', gC, stC, -, -, asC, slC⟩ := C
  cases hD.symm.trans hD'
  obtain ⟨D2, kD, e1, e2, e3, e4, e5⟩ := E
  cases hD.symm.trans e1
  obtain ⟨c2, k2, i1, i2, i3, -⟩ := Cond.instantiable_spec wi
  cases e2.symm.trans i1
  cases e3.symm.trans i2
  obtain ⟨kU, u1, u2⟩ := al.2.2 _ _ e3
  exact ⟨D, fV, fC, ⟨hD, ⟨knV, fun q hq => by rw [hq] at obV; cases obV⟩, by rw [al.findClass]; exact e2, kU, u1, by rw [u2]; exact i3, by rw [u2]; exact e5 i3⟩, ⟨SBG.found_only al ⟨cfV, kV, iV, gV⟩, stV⟩, ⟨SBG.found_only al ⟨cfC, kC, iC, gC⟩, stC⟩, slV, slC, by simp [RoadKit.slotOf, gV], by simp [RoadKit.slotOf, gC]⟩
theorem sta_is {Z U : State} (al : Z.vm.Alike U.vm) {C n d : String} {v : Value} (S : RoadKit.Sta Z U.heap C n d v) : StaticIs U C n d v := by
  obtain ⟨cfS, iS, kS, fS, st, cS, t1, t2, t3, t4, t5, t6, t7⟩ := S
  exact StaticIs.there (s := { Z with heap := U.heap }) ⟨cfS, iS, kS, fS, st, cS, t1, t2, t3, t4, t5, (fun q => by rw [q] at t6; cases t6), t7⟩ al rfl
/-- **length() OF SUCH A STRING** -/
theorem lenW {p : Program} {l : Launch} {e : Env} {R : Room} {s : State} {args : Array Value} {below : List Frame} {len W : Nat} {Z : State} {a0 : Array Value} {h : Heap} (hZ : Z.Warmed39 s.vm) (hw : ∀ d ∈ wordsLen, d.before a0 Z = true) {kI : Nat} (wi : (Jvm.Cond.instantiable ST kI).before a0 Z = true)
    {x t : Addr} {kb : ClassId} {cs : List Int32} {cd N2 z : Int32} {vs : List Value} (E : RoadKit.Exa Z h x ST) (V : RoadKit.Fld Z h x ST "value" "[B" (.ref t)) (C : RoadKit.Fld Z h x ST "coder" "B" (.int cd)) (K : RoadKit.Arv Z h t kb .byte N2 vs (.int 0)) (hc : CodA cs cd N2 vs) (hb : ∀ c ∈ cs, ¬ c < 0 ∧ ¬ (65535 : Int32) < c)
    (S : RoadKit.Sta Z h ST "COMPACT_STRINGS" "Z" (.int z)) (hz : ¬ z = 0) (l2 : cs.length ≤ 4000) (hfr : 2 ≤ R.frames) (hlo : W + 25 ≤ R.locals) :
    Back l R p e below s args (⟨"java/lang/String", "length", "()I"⟩ : MethodName) len W (fun P a => a = #[.ref x] ∧ P.U.heap = h ∧ P.cells + 0 ≤ R.cells ∧ P.slots + 0 ≤ R.slots)
      (fun P _ v B => ∃ L, (v = some (.int (Int32.ofNat cs.length)) ∧ L = [] ∧ B.U.heap = h) ∧ B.locs = P.locs ++ L ∧ B.cells = P.cells + 0 ∧ B.slots = P.slots + 0) := by
  obtain ⟨A, K1, K2, K3, K4, K5, K6⟩ := K
  have hcod := hc.cod (by omega) K3 K5
  intro m meth c P g ig mk a X hg hsize hdg hW hn hp'
  obtain ⟨rfl, rfl, r1, r2⟩ := hp'
  have al : Z.vm.Alike P.U.vm := hZ.alike.trans X.warmed.alike
  obtain ⟨D, fV, fC, hB, F1, F2, g1, g2, -, -⟩ := strObj wi al E V C
  have hx : Txt x t A cd cs.length (fun j => cs.getD j 0) P.U := ⟨⟨_, hB.2.2.1, D, hB.1, rfl, by cases q : D.vm <;> first | rfl | exact absurd q (hB.2.1.2 _)⟩, Has.of hB F1 g1, Has.of hB F2 g2, ⟨K1.1, State.isArrayOf_alike al K1.2.1, K1.2.2, by rcases hcod with ⟨-, q, -⟩ | ⟨-, q, -⟩ <;> omega⟩, hcod, fun j hj => by
    have e : cs.getD j 0 = cs[j] := by simp [List.getD_eq_getElem?_getD, hj]
    show ¬ cs.getD j 0 < 0 ∧ ¬ 65535 < cs.getD j 0
    rw [e]; exact hb _ (List.getElem_mem _)⟩
  obtain ⟨v, B, X', ⟨⟨hv, hh⟩, hl, hk, hs⟩, st⟩ := Len.pays x t A cd cs.length (fun j => cs.getD j 0) z (tabLen_of (movedLen hZ hw)) hfr hlo m meth c P g ig mk _ X hg hsize hdg hW hn ⟨r1, r2, rfl, hx, sta_is al S, hz⟩
  exact ⟨v, B, X', ⟨[], ⟨hv, rfl, hh⟩, hl, hk, hs⟩, st⟩
end StrChars.Road
namespace StrChars
open Jvm Sem ClassFile Op Lib Jvm.Stand Jvm.Free.XT Jvm.Free.ALB Jvm.Free.JM Jvm.Free
open Jvm.Lib.Cold (StaticIs)
/-- what place i of a byte[]'s cell holds -/
def yv (A : Cell) (i : Nat) : Int32 := match A.slots[i]? with | some (.int x) => x | _ => 0
theorem yv_get {a : Addr} {A : Cell} {U : State} (h : XT.Arr .byte a A U) (ht : Typed .byte A) {i : Nat} (hi : i < A.slots.size) : A.slots[i]? = some (.int (yv A i)) := by
  have e := Array.getElem?_eq_getElem hi
  have f := ht i _ e
  unfold yv; rw [e]
  generalize A.slots[i] = v at f
  cases v <;> simp [fits] at f ⊢
/-- the two arrays are equal, place for place -/
def EqC (A B : Cell) : Prop := A.slots.size = B.slots.size ∧ ∀ i, i < A.slots.size → yv A i = yv B i
/-- a boolean that says whether p -/
def Says01 (q : Prop) (r : Option Value) (s u : State) : Prop := ∃ v : Int32, r = some (.int v) ∧ u.heap = s.heap ∧ ((v = 1 ∧ q) ∨ (v = 0 ∧ ¬ q))
theorem Says01.mv {q : Prop} : ∀ r (U U' V V' : State), U'.heap = U.heap → V.vm.Alike V'.vm → V'.heap = V.heap → Says01 q r U V → Says01 q r U' V' :=
  fun r U U' V V' h1 _ h2 ⟨v, a, b, c⟩ => ⟨v, a, by rw [h1, h2]; exact b, c⟩
namespace LEq
def yN : MethodName := ⟨"java/lang/StringLatin1", "equals", "([B[B)Z"⟩
abbrev yB : ByteArray := jdk_43_method_13_code
theorem d0 : decode yB 0 = .ok (.aload_n 0, 1) := by decide +kernel
theorem d1 : decode yB 1 = .ok (.arraylength, 1) := by decide +kernel
theorem d2 : decode yB 2 = .ok (.aload_n 1, 1) := by decide +kernel
theorem d3 : decode yB 3 = .ok (.arraylength, 1) := by decide +kernel
theorem d4 : decode yB 4 = .ok (.if_icmp (.ne) 30, 3) := by decide +kernel
theorem d7 : decode yB 7 = .ok (.iconst 0, 1) := by decide +kernel
theorem d8 : decode yB 8 = .ok (.istore_n 2, 1) := by decide +kernel
theorem d9 : decode yB 9 = .ok (.iload_n 2, 1) := by decide +kernel
theorem d10 : decode yB 10 = .ok (.aload_n 0, 1) := by decide +kernel
theorem d11 : decode yB 11 = .ok (.arraylength, 1) := by decide +kernel
theorem d12 : decode yB 12 = .ok (.if_icmp (.ge) 20, 3) := by decide +kernel
theorem d15 : decode yB 15 = .ok (.aload_n 0, 1) := by decide +kernel
theorem d16 : decode yB 16 = .ok (.iload_n 2, 1) := by decide +kernel
theorem d17 : decode yB 17 = .ok (.baload, 1) := by decide +kernel
theorem d18 : decode yB 18 = .ok (.aload_n 1, 1) := by decide +kernel
theorem d19 : decode yB 19 = .ok (.iload_n 2, 1) := by decide +kernel
theorem d20 : decode yB 20 = .ok (.baload, 1) := by decide +kernel
theorem d21 : decode yB 21 = .ok (.if_icmp (.eq) 5, 3) := by decide +kernel
theorem d24 : decode yB 24 = .ok (.iconst 0, 1) := by decide +kernel
theorem d25 : decode yB 25 = .ok (.ireturn, 1) := by decide +kernel
theorem d26 : decode yB 26 = .ok (.iinc 2 1, 3) := by decide +kernel
theorem d29 : decode yB 29 = .ok (.goto (-20), 3) := by decide +kernel
theorem d32 : decode yB 32 = .ok (.iconst 1, 1) := by decide +kernel
theorem d33 : decode yB 33 = .ok (.ireturn, 1) := by decide +kernel
theorem d34 : decode yB 34 = .ok (.iconst 0, 1) := by decide +kernel
theorem d35 : decode yB 35 = .ok (.ireturn, 1) := by decide +kernel
def site : List Cond := []
def tab : Cond := tabOf yN yB 3 (some .boolean) site
def P (a : Addr) (A : Cell) (b : Addr) (B : Cell) (args : Array Value) (s : State) : Prop := args = #[.ref a, .ref b] ∧ XT.Arr .byte a A s ∧ Typed .byte A ∧ XT.Arr .byte b B s ∧ Typed .byte B
/-- whether two byte[] are equal, place for place -/
theorem law (l : Launch) (a : Addr) (A : Cell) (b : Addr) (B : Cell) : Law l yN 2 2 0 0 yB 3 (some .boolean) site (P a A b B) (Says01 (EqC A B)) [] 0 0 := by
  refine Law.of_walk (plainFor_of_name (by decide +kernel)) (by decide +kernel) (by decide +kernel) (by decide) (fun _ _ h => by rw [h.1]; rfl) (fun _ U U' hal hh h => ⟨h.1, h.2.1.mv hal hh, h.2.2.1, h.2.2.2.1.mv hal hh, h.2.2.2.2⟩) (fun r U U' V V' h1 hal h2 h => Says01.mv r U U' V V' h1 hal h2 h) ?_
  intro p e s m args below meth c s₁ X0 hexec hbytes hml hret hlk hnm hown hh0 W hP
  obtain ⟨rfl, hA, tA, hB, tB⟩ := hP
  have a31 := hA.2.2.2
  have b31 := hB.2.2.2
  have hA0 := hA.mv X0.warmed.alike hh0
  have hB0 := hB.mv X0.warmed.alike hh0
  have c1 : Steps p.tables e below (s₁.setTop (entryFrame m #[.ref a, .ref b] 3)) (s₁.setTop (mkF m 0 #[.val (.ref a), .val (.ref b), .unset] [])) := entry rfl
  have c2 : Steps p.tables e below (s₁.setTop (entryFrame m #[.ref a, .ref b] 3)) (s₁.setTop (mkF m 4 #[.val (.ref a), .val (.ref b), .unset] [.int (Int32.ofNat B.slots.size), .int (Int32.ofNat A.slots.size)])) := c1.trans (by
    refine XS.aloadN X0.here hexec rfl (hb hbytes d0) rfl rfl ?_
    refine X0.alen hexec hA0 rfl rfl (hb hbytes d1) ?_
    refine XS.aloadN X0.here hexec rfl (hb hbytes d2) rfl rfl ?_
    refine X0.alen hexec hB0 rfl rfl (hb hbytes d3) ?_
    exact Steps.refl _)
  by_cases hs : A.slots.size = B.slots.size
  · have c3 : Steps p.tables e below (s₁.setTop (entryFrame m #[.ref a, .ref b] 3)) (s₁.setTop (mkF m 9 #[.val (.ref a), .val (.ref b), .val (.int 0)] [])) := c2.trans (by
      refine XS.icmpNo X0.here hexec rfl (hb hbytes d4) rfl (ii_ne_f (by rw [hs])) ?_
      refine iconstV X0.here hexec rfl 0 (hb hbytes d7) (by decide) ?_
      refine XS.istoreN X0.here hexec rfl (hb hbytes d8) rfl rfl ?_
      exact Steps.refl _)
    have loop : ∀ (r i : Nat), i + r = A.slots.size → (∀ j, j < i → yv A j = yv B j) → Steps p.tables e below (s₁.setTop (entryFrame m #[.ref a, .ref b] 3)) (s₁.setTop (mkF m 9 #[.val (.ref a), .val (.ref b), .val (.int (Int32.ofNat i))] [])) → ∃ (pc : Nat) (Ls : Array Slot) (v : Int32), (pc = 25 ∨ pc = 33) ∧ ((v = 1 ∧ EqC A B) ∨ (v = 0 ∧ ¬ EqC A B)) ∧ Steps p.tables e below (s₁.setTop (entryFrame m #[.ref a, .ref b] 3)) (s₁.setTop (mkF m pc Ls [.int v])) := by
      intro r
      induction r with
      | zero =>
        intro i hi he cl
        exact ⟨33, _, 1, Or.inr rfl, Or.inl ⟨rfl, hs, fun j hj => he j (by omega)⟩, cl.trans (by
          refine XS.iloadN X0.here hexec rfl (hb hbytes d9) rfl ?_
          refine XS.aloadN X0.here hexec rfl (hb hbytes d10) rfl rfl ?_
          refine X0.alen hexec hA0 rfl rfl (hb hbytes d11) ?_
          refine XS.icmpYes X0.here hexec rfl (pc0 := 12) rfl (hb hbytes d12) rfl (ii_ge_t (nlt32 (by omega) (by omega))) (by decide) rfl ?_
          refine iconstV X0.here hexec rfl 1 (hb hbytes d32) (by decide) ?_
          exact Steps.refl _)⟩
      | succ r ih =>
        intro i hi he cl
        have c4 : Steps p.tables e below (s₁.setTop (entryFrame m #[.ref a, .ref b] 3)) (s₁.setTop (mkF m 21 #[.val (.ref a), .val (.ref b), .val (.int (Int32.ofNat i))] [.int (yv B i), .int (yv A i)])) := cl.trans (by
          refine XS.iloadN X0.here hexec rfl (hb hbytes d9) rfl ?_
          refine XS.aloadN X0.here hexec rfl (hb hbytes d10) rfl rfl ?_
          refine X0.alen hexec hA0 rfl rfl (hb hbytes d11) ?_
          refine XS.icmpNo X0.here hexec rfl (hb hbytes d12) rfl (ii_ge_f (lt32 (by omega) (by omega))) ?_
          refine XS.aloadN X0.here hexec rfl (hb hbytes d15) rfl rfl ?_
          refine XS.iloadN X0.here hexec rfl (hb hbytes d16) rfl ?_
          refine X0.aget hexec hA0 rfl (yv_get hA tA (i := i) (by omega)) rfl rfl (hb hbytes d17) ?_
          refine XS.aloadN X0.here hexec rfl (hb hbytes d18) rfl rfl ?_
          refine XS.iloadN X0.here hexec rfl (hb hbytes d19) rfl ?_
          refine X0.aget hexec hB0 rfl (yv_get hB tB (i := i) (by omega)) rfl rfl (hb hbytes d20) ?_
          exact Steps.refl _)
        by_cases hv : yv A i = yv B i
        · have c5 : Steps p.tables e below (s₁.setTop (entryFrame m #[.ref a, .ref b] 3)) (s₁.setTop (mkF m 9 #[.val (.ref a), .val (.ref b), .val (.int (Int32.ofNat i + 1))] [])) := c4.trans (by
            refine XS.icmpYes X0.here hexec rfl (pc0 := 21) rfl (hb hbytes d21) rfl (ii_eq_t hv) (by decide) rfl ?_
            refine iincV X0.here hexec rfl 1 (hb hbytes d26) (by decide) rfl rfl ?_
            refine XS.goto X0.here hexec rfl (pc0 := 29) rfl (hb hbytes d29) (by decide) rfl ?_
            exact Steps.refl _)
          rw [succ32] at c5
          exact ih (i + 1) (by omega) (fun j hj => by
            by_cases e : j = i
            · rw [e]; exact hv
            · exact he j (by omega)) c5
        · exact ⟨25, _, 0, Or.inl rfl, Or.inr ⟨rfl, fun q => hv (q.2 i (by omega))⟩, c4.trans (by
            refine XS.icmpNo X0.here hexec rfl (hb hbytes d21) rfl (ii_eq_f hv) ?_
            refine iconstV X0.here hexec rfl 0 (hb hbytes d24) (by decide) ?_
            exact Steps.refl _)⟩
    obtain ⟨pc, Ls, v, hpc, hv, cz⟩ := loop A.slots.size 0 (by omega) (fun j hj => absurd hj (Nat.not_lt_zero j)) c3
    have nv : narrow .boolean (.int v) = .int v := by rcases hv with ⟨rfl, -⟩ | ⟨rfl, -⟩ <;> rfl
    rcases hpc with rfl | rfl
    · exact ⟨s₁, some (.int v), _, _, _, X0, rfl, rfl, rfl, (fun h => by cases h), ⟨v, rfl, hh0, hv⟩, fun fs hl => cz.trans (X0.ireturnOut hexec hret nv (Or.inr (Or.inl rfl)) (hb hbytes d25) hl)⟩
    · exact ⟨s₁, some (.int v), _, _, _, X0, rfl, rfl, rfl, (fun h => by cases h), ⟨v, rfl, hh0, hv⟩, fun fs hl => cz.trans (X0.ireturnOut hexec hret nv (Or.inr (Or.inl rfl)) (hb hbytes d33) hl)⟩
  · have c3 : Steps p.tables e below (s₁.setTop (entryFrame m #[.ref a, .ref b] 3)) (s₁.setTop (mkF m 35 #[.val (.ref a), .val (.ref b), .unset] [.int 0])) := c2.trans (by
      refine XS.icmpYes X0.here hexec rfl (pc0 := 4) rfl (hb hbytes d4) rfl (ii_ne_t (ne32 a31 b31 hs)) (by decide) rfl ?_
      refine iconstV X0.here hexec rfl 0 (hb hbytes d34) (by decide) ?_
      exact Steps.refl _)
    exact ⟨s₁, some (.int 0), _, _, _, X0, rfl, rfl, rfl, (fun h => by cases h), ⟨0, rfl, hh0, Or.inr ⟨rfl, fun q => hs q.1⟩⟩, fun fs hl => c3.trans (X0.ireturnOut hexec hret rfl (Or.inr (Or.inl rfl)) (hb hbytes d35) hl)⟩
end LEq
theorem Cod.ty {cd : Int32} {n : Nat} {f : Nat → Int32} {V : Cell} (h : Cod cd n f V) : Typed .byte V := fun i v hv => by
  have hi : i < V.slots.size := (Array.getElem?_eq_some_iff.mp hv).1
  rcases h with ⟨-, k1, k2⟩ | ⟨-, k1, k2, -⟩
  · rw [(k2 i (by omega)).1] at hv; cases hv; exact fits_lo8 _
  · rcases Nat.mod_two_eq_zero_or_one i with e | e
    · obtain ⟨j, rfl⟩ : ∃ j, i = 2 * j := ⟨i / 2, by omega⟩
      rw [(k2 j (by omega)).1] at hv; cases hv; exact fits_lo8 _
    · obtain ⟨j, rfl⟩ : ∃ j, i = 2 * j + 1 := ⟨i / 2, by omega⟩
      rw [(k2 j (by omega)).2] at hv; cases hv; exact fits_lo8 _
/-- the same text -/
def SameT (n : Nat) (f : Nat → Int32) (k : Nat) (g : Nat → Int32) : Prop := n = k ∧ ∀ j, j < n → f j = g j
theorem lo8_inj {x y : Int32} (h0 : ¬ x < 0) (h1 : ¬ 255 < x) (k0 : ¬ y < 0) (k1 : ¬ 255 < y) (h : lo8 x = lo8 y) : x = y := by
  rw [← lo8_mask h0 h1, ← lo8_mask k0 k1, h]
/-- arrays coded by one coder are equal just where the texts are -/
theorem Cod.eqv {cd : Int32} {n k : Nat} {f g : Nat → Int32} {V V' : Cell} (h : Cod cd n f V) (h' : Cod cd k g V') (hf : ∀ j, j < n → ¬ f j < 0 ∧ ¬ 65535 < f j) (hg : ∀ j, j < k → ¬ g j < 0 ∧ ¬ 65535 < g j) : EqC V V' ↔ SameT n f k g := by
  have yvv : ∀ {W : Cell} {i : Nat} {x : Int32}, W.slots[i]? = some (.int x) → yv W i = x := fun q => by unfold yv; rw [q]
  rcases h with ⟨rfl, k1, k2⟩ | ⟨rfl, k1, k2, -⟩
  · rcases h' with ⟨-, m1, m2⟩ | ⟨e, -⟩
    · constructor
      · rintro ⟨e1, e2⟩
        refine ⟨by omega, fun j hj => ?_⟩
        have q := e2 j (by omega)
        rw [yvv (k2 j hj).1, yvv (m2 j (by omega)).1] at q
        exact lo8_inj (hf j hj).1 (k2 j hj).2 (hg j (by omega)).1 (m2 j (by omega)).2 q
      · rintro ⟨rfl, e2⟩
        refine ⟨by omega, fun j hj => ?_⟩
        rw [yvv (k2 j (by omega)).1, yvv (m2 j (by omega)).1, e2 j (by omega)]
    · exact absurd e (by decide)
  · rcases h' with ⟨e, -⟩ | ⟨-, m1, m2, -⟩
    · exact absurd e (by decide)
    · constructor
      · rintro ⟨e1, e2⟩
        refine ⟨by omega, fun j hj => ?_⟩
        have q1 := e2 (2 * j) (by omega)
        have q2 := e2 (2 * j + 1) (by omega)
        rw [yvv (k2 j hj).1, yvv (m2 j (by omega)).1] at q1
        rw [yvv (k2 j hj).2, yvv (m2 j (by omega)).2] at q2
        rw [← pair_says (hf j hj).1 (hf j hj).2, ← pair_says (hg j (by omega)).1 (hg j (by omega)).2, q1, q2]
      · rintro ⟨rfl, e2⟩
        refine ⟨by omega, fun i hi => ?_⟩
        rcases Nat.mod_two_eq_zero_or_one i with e | e
        · obtain ⟨j, rfl⟩ : ∃ j, i = 2 * j := ⟨i / 2, by omega⟩
          rw [yvv (k2 j (by omega)).1, yvv (m2 j (by omega)).1, e2 j (by omega)]
        · obtain ⟨j, rfl⟩ : ∃ j, i = 2 * j + 1 := ⟨i / 2, by omega⟩
          rw [yvv (k2 j (by omega)).2, yvv (m2 j (by omega)).2, e2 j (by omega)]
/-- two codings differ: so do the texts -/
theorem Cod.dif {cd cd' : Int32} {n k : Nat} {f g : Nat → Int32} {V V' : Cell} (h : Cod cd n f V) (h' : Cod cd' k g V') (hne : ¬ cd = cd') : ¬ SameT n f k g := by
  rintro ⟨rfl, e⟩
  rcases h with ⟨rfl, -, k2⟩ | ⟨rfl, -, -, j, hj, hw⟩
  · rcases h' with ⟨rfl, -⟩ | ⟨-, -, -, j, hj, hw⟩
    · exact hne rfl
    · exact (k2 j hj).2 (by rw [e j hj]; exact hw)
  · rcases h' with ⟨-, -, m2⟩ | ⟨rfl, -⟩
    · exact (m2 j hj).2 (by rw [← e j hj]; exact hw)
    · exact hne rfl
/-- an object of exactly C is an instance of C -/
theorem cinst {p : Program} {l : Launch} {e : Env} {R : Room} {s : State} {m : MethodId} {args : Array Value} {below : List Frame} {meth : Method} {c : Code} {T : State} {locs : List Loc} {cells slots : Nat} (X : Stand p l e R s m args below meth c T locs cells slots) (hexec : p.tables.exec = Jvm.exec) {own C : String} {index : Nat} (hown : s.vm.findClass own = some m.cls) (hlink : (Cond.classLink own index C).before args s = true) {a : Addr} (hE : Exact C a T)
    {g : JFrame} (hg : g.method = m) {rest : List Value} (hstack : g.stack = .ref a :: rest) (hdg : decode c.code g.pc = .ok (.instanceof index, 3)) :
    ∃ T', Stand p l e R s m args below meth c T' locs cells slots ∧ T'.heap = T.heap ∧ ∀ target, Steps p.tables e below (T'.setTop { g with pc := g.pc + 3, stack := .int 1 :: rest }) target → Steps p.tables e below (T.setTop g) target := by
  obtain ⟨cB, h1, D, h2, h3, h4⟩ := hE
  have h1' : s.vm.findClass C = some cB := by rw [← X.warmed.alike.findClass]; exact h1
  obtain ⟨vm', X', st⟩ := X.instanceofYes hexec hown hlink h2 h4 h1' (by rw [h3]; exact Jvm.Free.SB.assignable_self _ _) hg hstack hdg
  exact ⟨_, X', rfl, st⟩
theorem cself {p : Program} {l : Launch} {e : Env} {R : Room} {s : State} {m : MethodId} {args : Array Value} {below : List Frame} {meth : Method} {c : Code} {T : State} {locs : List Loc} {cells slots : Nat} (X : Stand p l e R s m args below meth c T locs cells slots) (hexec : p.tables.exec = Jvm.exec) {own C : String} {index : Nat} (hown : s.vm.findClass own = some m.cls) (hlink : (Cond.classLink own index C).before args s = true) {a : Addr} (hE : Exact C a T)
    {g : JFrame} (hg : g.method = m) {rest : List Value} (hstack : g.stack = .ref a :: rest) (hdg : decode c.code g.pc = .ok (.checkcast index, 3)) :
    ∃ T', Stand p l e R s m args below meth c T' locs cells slots ∧ T'.heap = T.heap ∧ ∀ target, Steps p.tables e below (T'.setTop { g with pc := g.pc + 3, stack := .ref a :: rest }) target → Steps p.tables e below (T.setTop g) target := by
  obtain ⟨cB, h1, D, h2, h3, h4⟩ := hE
  have h1' : s.vm.findClass C = some cB := by rw [← X.warmed.alike.findClass]; exact h1
  obtain ⟨vm', X', st⟩ := X.checkcastYes hexec hown hlink h2 h4 h1' (by rw [h3]; exact Jvm.Free.SB.assignable_self _ _) hg hstack hdg
  exact ⟨_, X', rfl, fun t h => st t (by rw [← hstack] at h; exact h)⟩
namespace SEq
def yN : MethodName := ⟨"java/lang/String", "equals", "(Ljava/lang/Object;)Z"⟩
abbrev yB : ByteArray := jdk_42_method_66_code
theorem d0 : decode yB 0 = .ok (.aload_n 0, 1) := by decide +kernel
theorem d1 : decode yB 1 = .ok (.aload_n 1, 1) := by decide +kernel
theorem d2 : decode yB 2 = .ok (.if_acmp (.ne) 5, 3) := by decide +kernel
theorem d5 : decode yB 5 = .ok (.iconst 1, 1) := by decide +kernel
theorem d6 : decode yB 6 = .ok (.ireturn, 1) := by decide +kernel
theorem d7 : decode yB 7 = .ok (.aload_n 1, 1) := by decide +kernel
theorem d8 : decode yB 8 = .ok (.instanceof 10, 3) := by decide +kernel
theorem d11 : decode yB 11 = .ok (.ifCond (.eq) 43, 3) := by decide +kernel
theorem d14 : decode yB 14 = .ok (.aload_n 1, 1) := by decide +kernel
theorem d15 : decode yB 15 = .ok (.checkcast 10, 3) := by decide +kernel
theorem d18 : decode yB 18 = .ok (.astore_n 2, 1) := by decide +kernel
theorem d19 : decode yB 19 = .ok (.getstatic 38, 3) := by decide +kernel
theorem d22 : decode yB 22 = .ok (.ifCond (.eq) 14, 3) := by decide +kernel
theorem d25 : decode yB 25 = .ok (.aload_n 0, 1) := by decide +kernel
theorem d26 : decode yB 26 = .ok (.getfield 15, 3) := by decide +kernel
theorem d29 : decode yB 29 = .ok (.aload_n 2, 1) := by decide +kernel
theorem d30 : decode yB 30 = .ok (.getfield 15, 3) := by decide +kernel
theorem d33 : decode yB 33 = .ok (.if_icmp (.ne) 21, 3) := by decide +kernel
theorem d36 : decode yB 36 = .ok (.aload_n 0, 1) := by decide +kernel
theorem d37 : decode yB 37 = .ok (.getfield 9, 3) := by decide +kernel
theorem d40 : decode yB 40 = .ok (.aload_n 2, 1) := by decide +kernel
theorem d41 : decode yB 41 = .ok (.getfield 9, 3) := by decide +kernel
theorem d44 : decode yB 44 = .ok (.invokestatic 541, 3) := by decide +kernel
theorem d47 : decode yB 47 = .ok (.ifCond (.eq) 7, 3) := by decide +kernel
theorem d50 : decode yB 50 = .ok (.iconst 1, 1) := by decide +kernel
theorem d51 : decode yB 51 = .ok (.goto 4, 3) := by decide +kernel
theorem d54 : decode yB 54 = .ok (.iconst 0, 1) := by decide +kernel
theorem d55 : decode yB 55 = .ok (.ireturn, 1) := by decide +kernel
def site : List Cond := [.classLink "java/lang/String" 10 "java/lang/String", .fieldLink "java/lang/String" 38 "java/lang/String" "COMPACT_STRINGS" "Z", .fieldLink "java/lang/String" 15 "java/lang/String" "coder" "B", .fieldLink "java/lang/String" 9 "java/lang/String" "value" "[B", LEq.tab] ++ staticW "java/lang/String" 541 LEq.yN
def tab : Cond := tabOf yN yB 3 (some .boolean) site
def P (x t : Addr) (V : Cell) (cd : Int32) (n : Nat) (f : Nat → Int32) (y t' : Addr) (V' : Cell) (cd' : Int32) (k : Nat) (g : Nat → Int32) (z : Int32) (args : Array Value) (s : State) : Prop := args = #[.ref x, .ref y] ∧ Txt x t V cd n f s ∧ Txt y t' V' cd' k g s ∧ StaticIs s "java/lang/String" "COMPACT_STRINGS" "Z" (.int z) ∧ ¬ z = 0
/-- equals(Object) of two Strings: whether the texts are the same -/
theorem law (l : Launch) (x t : Addr) (V : Cell) (cd : Int32) (n : Nat) (f : Nat → Int32) (y t' : Addr) (V' : Cell) (cd' : Int32) (k : Nat) (g : Nat → Int32) (z : Int32) : Law l yN 2 1 1 14 yB 3 (some .boolean) site (P x t V cd n f y t' V' cd' k g z) (Says01 (SameT n f k g)) [] 0 0 := by
  refine Law.of_walk (plainFor_of_name (by decide +kernel)) (by decide +kernel) (by decide +kernel) (by decide) (fun _ _ h => by rw [h.1]; rfl) (fun _ U U' hal hh h => ⟨h.1, h.2.1.mv hal hh, h.2.2.1.mv hal hh, h.2.2.2.1.there hal hh, h.2.2.2.2⟩) (fun r U U' V V' h1 hal h2 h => Says01.mv r U U' V V' h1 hal h2 h) ?_
  intro p e s m args below meth c s₁ X0 hexec hbytes hml hret hlk hnm hown hh0 W hP
  obtain ⟨rfl, hx, hy, s1, hz⟩ := hP
  have c1 : Steps p.tables e below (s₁.setTop (entryFrame m #[.ref x, .ref y] 3)) (s₁.setTop (mkF m 2 #[.val (.ref x), .val (.ref y), .unset] [.ref y, .ref x])) := Steps.trans (entry rfl) (by
    show Steps p.tables e below (s₁.setTop (mkF m 0 #[.val (.ref x), .val (.ref y), .unset] [])) _
    refine XS.aloadN X0.here hexec rfl (hb hbytes d0) rfl rfl ?_
    refine XS.aloadN X0.here hexec rfl (hb hbytes d1) rfl rfl ?_
    exact Steps.refl _)
  by_cases hxy : x = y
  · have c2 : Steps p.tables e below (s₁.setTop (entryFrame m #[.ref x, .ref y] 3)) (s₁.setTop (mkF m 6 #[.val (.ref x), .val (.ref y), .unset] [.int 1])) := c1.trans (by
      refine acmpNo X0.here hexec rfl (hb hbytes d2) rfl rfl rfl (by simp [acmp, hxy]) ?_
      refine iconstV X0.here hexec rfl 1 (hb hbytes d5) (by decide) ?_
      exact Steps.refl _)
    subst hxy
    have ec : cd = cd' := by
      obtain ⟨D, fd, a1, a2, a3⟩ := hx.2.2.1
      obtain ⟨D', fd', b1, b2, b3⟩ := hy.2.2.1
      cases a1.symm.trans b1
      obtain ⟨q1, q2, q3, q4⟩ := a2.1
      obtain ⟨r1, r2, r3, r4⟩ := b2.1
      cases q4.symm.trans r4
      cases a3.symm.trans b3; rfl
    have et : t = t' := by
      obtain ⟨D, fd, a1, a2, a3⟩ := hx.2.1
      obtain ⟨D', fd', b1, b2, b3⟩ := hy.2.1
      cases a1.symm.trans b1
      obtain ⟨q1, q2, q3, q4⟩ := a2.1
      obtain ⟨r1, r2, r3, r4⟩ := b2.1
      cases q4.symm.trans r4
      cases a3.symm.trans b3; rfl
    subst ec et
    have ev : V = V' := by cases hx.2.2.2.1.1.symm.trans hy.2.2.2.1.1; rfl
    subst ev
    have hs : SameT n f k g := (Cod.eqv hx.2.2.2.2.1 hy.2.2.2.2.1 hx.2.2.2.2.2 hy.2.2.2.2.2).mp ⟨rfl, fun _ _ => rfl⟩
    exact ⟨s₁, some (.int 1), _, _, _, X0, rfl, rfl, rfl, (fun h => by cases h), ⟨1, rfl, hh0, Or.inl ⟨rfl, hs⟩⟩, fun fs hl => c2.trans (X0.ireturnOut hexec hret rfl (Or.inr (Or.inl rfl)) (hb hbytes d6) hl)⟩
  · have c2 : Steps p.tables e below (s₁.setTop (entryFrame m #[.ref x, .ref y] 3)) (s₁.setTop (mkF m 8 #[.val (.ref x), .val (.ref y), .unset] [.ref y])) := c1.trans (by
      refine acmpYes X0.here hexec rfl (pc0 := 2) rfl (hb hbytes d2) rfl rfl rfl (by simp [acmp, hxy]) (by decide) rfl ?_
      refine XS.aloadN X0.here hexec rfl (hb hbytes d7) rfl rfl ?_
      exact Steps.refl _)
    obtain ⟨T3, X3, q3, st3⟩ := cinst X0 hexec hown (wk W (.classLink "java/lang/String" 10 "java/lang/String")) (hy.mv X0.warmed.alike hh0).1 (g := (mkF m 8 #[.val (.ref x), .val (.ref y), .unset] [.ref y])) rfl (rest := []) rfl (hb hbytes d8)
    have hh3 := q3.trans hh0
    have c4 : Steps p.tables e below (s₁.setTop (entryFrame m #[.ref x, .ref y] 3)) (T3.setTop (mkF m 15 #[.val (.ref x), .val (.ref y), .unset] [.ref y])) := (c2.trans (st3 _ (Steps.refl _))).trans (by
      refine XS.ifNo X3.here hexec rfl (hb hbytes d11) rfl (i0_eq_f (by decide)) ?_
      refine XS.aloadN X3.here hexec rfl (hb hbytes d14) rfl rfl ?_
      exact Steps.refl _)
    obtain ⟨T5, X5, q5, st5⟩ := cself X3 hexec hown (wk W (.classLink "java/lang/String" 10 "java/lang/String")) (hy.mv X3.warmed.alike hh3).1 (g := (mkF m 15 #[.val (.ref x), .val (.ref y), .unset] [.ref y])) rfl (rest := []) rfl (hb hbytes d15)
    have hh5 := q5.trans hh3
    have c6 : Steps p.tables e below (s₁.setTop (entryFrame m #[.ref x, .ref y] 3)) (T5.setTop (mkF m 19 #[.val (.ref x), .val (.ref y), .val (.ref y)] [])) := (c4.trans (st5 _ (Steps.refl _))).trans (by
      refine XS.astoreN X5.here hexec rfl (hb hbytes d18) rfl rfl rfl ?_
      exact Steps.refl _)
    obtain ⟨T7, X7, q7, st7⟩ := X5.sget hexec hown (wk W (.fieldLink "java/lang/String" 38 "java/lang/String" "COMPACT_STRINGS" "Z")) s1 (fun _ _ h => by rw [hh5]; exact h) (g := (mkF m 19 #[.val (.ref x), .val (.ref y), .val (.ref y)] [])) rfl (hb hbytes d19)
    have hh7 := q7.trans hh5
    have c8 : Steps p.tables e below (s₁.setTop (entryFrame m #[.ref x, .ref y] 3)) (T7.setTop (mkF m 26 #[.val (.ref x), .val (.ref y), .val (.ref y)] [.ref x])) := (c6.trans (st7 _ (Steps.refl _))).trans (by
      refine XS.ifNo X7.here hexec rfl (hb hbytes d22) rfl (i0_eq_f hz) ?_
      refine XS.aloadN X7.here hexec rfl (hb hbytes d25) rfl rfl ?_
      exact Steps.refl _)
    obtain ⟨T9, X9, q9, st9⟩ := X7.hget hexec hown (wk W (.fieldLink "java/lang/String" 15 "java/lang/String" "coder" "B")) (hx.mv X7.warmed.alike hh7).2.2.1 (g := (mkF m 26 #[.val (.ref x), .val (.ref y), .val (.ref y)] [.ref x])) rfl (rest := []) rfl (hb hbytes d26)
    have hh9 := q9.trans hh7
    have c10 : Steps p.tables e below (s₁.setTop (entryFrame m #[.ref x, .ref y] 3)) (T9.setTop (mkF m 30 #[.val (.ref x), .val (.ref y), .val (.ref y)] [.ref y, .int cd])) := (c8.trans (st9 _ (Steps.refl _))).trans (by
      refine XS.aloadN X9.here hexec rfl (hb hbytes d29) rfl rfl ?_
      exact Steps.refl _)
    obtain ⟨T11, X11, q11, st11⟩ := X9.hget hexec hown (wk W (.fieldLink "java/lang/String" 15 "java/lang/String" "coder" "B")) (hy.mv X9.warmed.alike hh9).2.2.1 (g := (mkF m 30 #[.val (.ref x), .val (.ref y), .val (.ref y)] [.ref y, .int cd])) rfl (rest := [.int cd]) rfl (hb hbytes d30)
    have hh11 := q11.trans hh9
    have c12 : Steps p.tables e below (s₁.setTop (entryFrame m #[.ref x, .ref y] 3)) (T11.setTop (mkF m 33 #[.val (.ref x), .val (.ref y), .val (.ref y)] [.int cd', .int cd])) := c10.trans (st11 _ (Steps.refl _))
    by_cases hcd : cd = cd'
    · subst hcd
      have c13 : Steps p.tables e below (s₁.setTop (entryFrame m #[.ref x, .ref y] 3)) (T11.setTop (mkF m 37 #[.val (.ref x), .val (.ref y), .val (.ref y)] [.ref x])) := c12.trans (by
        refine XS.icmpNo X11.here hexec rfl (hb hbytes d33) rfl (ii_ne_f rfl) ?_
        refine XS.aloadN X11.here hexec rfl (hb hbytes d36) rfl rfl ?_
        exact Steps.refl _)
      obtain ⟨T14, X14, q14, st14⟩ := X11.hget hexec hown (wk W (.fieldLink "java/lang/String" 9 "java/lang/String" "value" "[B")) (hx.mv X11.warmed.alike hh11).2.1 (g := (mkF m 37 #[.val (.ref x), .val (.ref y), .val (.ref y)] [.ref x])) rfl (rest := []) rfl (hb hbytes d37)
      have hh14 := q14.trans hh11
      have c15 : Steps p.tables e below (s₁.setTop (entryFrame m #[.ref x, .ref y] 3)) (T14.setTop (mkF m 41 #[.val (.ref x), .val (.ref y), .val (.ref y)] [.ref y, .ref t])) := (c13.trans (st14 _ (Steps.refl _))).trans (by
        refine XS.aloadN X14.here hexec rfl (hb hbytes d40) rfl rfl ?_
        exact Steps.refl _)
      obtain ⟨T16, X16, q16, st16⟩ := X14.hget hexec hown (wk W (.fieldLink "java/lang/String" 9 "java/lang/String" "value" "[B")) (hy.mv X14.warmed.alike hh14).2.1 (g := (mkF m 41 #[.val (.ref x), .val (.ref y), .val (.ref y)] [.ref y, .ref t])) rfl (rest := [.ref t]) rfl (hb hbytes d41)
      have hh16 := q16.trans hh14
      have c17 : Steps p.tables e below (s₁.setTop (entryFrame m #[.ref x, .ref y] 3)) (T16.setTop (mkF m 44 #[.val (.ref x), .val (.ref y), .val (.ref y)] [.ref t', .ref t])) := c15.trans (st16 _ (Steps.refl _))
      obtain ⟨v18, T18, X18, E18, g18⟩ := X16.callS hexec (LEq.law l t V t' V') hown (wks W (staticW "java/lang/String" 541 LEq.yN)) (wk W LEq.tab) (W := 0) (Nat.le_of_ble_eq_true rfl) (Nat.le_of_ble_eq_true rfl) (Nat.le_refl _) (Nat.le_refl _) (g := (mkF m 44 #[.val (.ref x), .val (.ref y), .val (.ref y)] [.ref t', .ref t])) rfl (by rw [hml]; rfl) c17 (argsL := [.ref t, .ref t']) (rest := []) rfl rfl (by show 2 * 0 + 0 ≤ _; decide) (hb hbytes d44) (⟨rfl, hx.2.2.2.1.mv X16.warmed.alike hh16, hx.2.2.2.2.1.ty, hy.2.2.2.1.mv X16.warmed.alike hh16, hy.2.2.2.2.1.ty⟩)
      obtain ⟨v, rfl, q18, hv⟩ := E18
      have iff := Cod.eqv hx.2.2.2.2.1 hy.2.2.2.2.1 hx.2.2.2.2.2 hy.2.2.2.2.2
      rcases hv with ⟨rfl, he⟩ | ⟨rfl, he⟩
      · have c19 : Steps p.tables e below (s₁.setTop (entryFrame m #[.ref x, .ref y] 3)) (T18.setTop (mkF m 55 #[.val (.ref x), .val (.ref y), .val (.ref y)] [.int 1])) := Steps.trans g18 (by
          refine XS.ifNo X18.here hexec rfl (hb hbytes d47) rfl (i0_eq_f (by decide)) ?_
          refine iconstV X18.here hexec rfl 1 (hb hbytes d50) (by decide) ?_
          refine XS.goto X18.here hexec rfl (pc0 := 51) rfl (hb hbytes d51) (by decide) rfl ?_
          exact Steps.refl _)
        exact ⟨T18, some (.int 1), _, _, _, X18, rfl, rfl, rfl, (fun h => by cases h), ⟨1, rfl, q18.trans hh16, Or.inl ⟨rfl, iff.mp he⟩⟩, fun fs hl => c19.trans (X18.ireturnOut hexec hret rfl (Or.inr (Or.inl rfl)) (hb hbytes d55) hl)⟩
      · have c19 : Steps p.tables e below (s₁.setTop (entryFrame m #[.ref x, .ref y] 3)) (T18.setTop (mkF m 55 #[.val (.ref x), .val (.ref y), .val (.ref y)] [.int 0])) := Steps.trans g18 (by
          refine XS.ifYes X18.here hexec rfl (pc0 := 47) rfl (hb hbytes d47) rfl (i0_eq_t rfl) (by decide) rfl ?_
          refine iconstV X18.here hexec rfl 0 (hb hbytes d54) (by decide) ?_
          exact Steps.refl _)
        exact ⟨T18, some (.int 0), _, _, _, X18, rfl, rfl, rfl, (fun h => by cases h), ⟨0, rfl, q18.trans hh16, Or.inr ⟨rfl, fun q => he (iff.mpr q)⟩⟩, fun fs hl => c19.trans (X18.ireturnOut hexec hret rfl (Or.inr (Or.inl rfl)) (hb hbytes d55) hl)⟩
    · have c13 : Steps p.tables e below (s₁.setTop (entryFrame m #[.ref x, .ref y] 3)) (T11.setTop (mkF m 55 #[.val (.ref x), .val (.ref y), .val (.ref y)] [.int 0])) := c12.trans (by
        refine XS.icmpYes X11.here hexec rfl (pc0 := 33) rfl (hb hbytes d33) rfl (ii_ne_t hcd) (by decide) rfl ?_
        refine iconstV X11.here hexec rfl 0 (hb hbytes d54) (by decide) ?_
        exact Steps.refl _)
      exact ⟨T11, some (.int 0), _, _, _, X11, rfl, rfl, rfl, (fun h => by cases h), ⟨0, rfl, hh11, Or.inr ⟨rfl, Cod.dif hx.2.2.2.2.1 hy.2.2.2.2.1 hcd⟩⟩, fun fs hl => c13.trans (X11.ireturnOut hexec hret rfl (Or.inr (Or.inl rfl)) (hb hbytes d55) hl)⟩
theorem pays {l : Launch} {R : Room} {p : Program} {e : Env} {below : List Frame} {s : State} {sargs : Array Value} {len W : Nat} (x t : Addr) (V : Cell) (cd : Int32) (n : Nat) (f : Nat → Int32) (y t' : Addr) (V' : Cell) (cd' : Int32) (k : Nat) (g : Nat → Int32) (z : Int32) (htab : tab.before sargs s = true) (hfr : 2 ≤ R.frames) (hlo : W + 28 ≤ R.locals) :
    Back l R p e below s sargs yN len W (fun A₁ a₁ => A₁.cells + 0 ≤ R.cells ∧ A₁.slots + 0 ≤ R.slots ∧ P x t V cd n f y t' V' cd' k g z a₁ A₁.U) (fun A₁ _ v₁ B₁ => Says01 (SameT n f k g) v₁ A₁.U B₁.U ∧ B₁.locs = A₁.locs ++ [] ∧ B₁.cells = A₁.cells + 0 ∧ B₁.slots = A₁.slots + 0) :=
  (law l x t V cd n f y t' V' cd' k g z).pays htab hfr (by omega)
end SEq
end StrChars
namespace StrChars.Road
open Jvm Sem ClassFile Op Lib Jvm.Stand Jvm.Free Jvm.Free.XT
open Jvm.Lib.Cold (StaticIs)
/-- the words of String.equals(Object) -/
abbrev wordsEq : List Jvm.Cond := [.code SEq.yN SEq.yB 3 (some .boolean), .initialized ST, .classLink ST 10 ST, .fieldLink ST 38 ST "COMPACT_STRINGS" "Z", .fieldLink ST 15 ST "coder" "B", .fieldLink ST 9 ST "value" "[B", .methodLink ST 541 LEq.yN, .static LEq.yN, .code LEq.yN LEq.yB 3 (some .boolean), .initialized "java/lang/StringLatin1"]
theorem tabEq_of {a : Array Value} {s : State} (h : ∀ w ∈ wordsEq, w.before a s = true) : SEq.tab.before a s = true := by
  have hl : LEq.tab.before a s = true := unparts (wk h (.code LEq.yN LEq.yB 3 (some .boolean))) (wks h (.initialized LEq.yN.cls :: LEq.site))
  have q := consq hl h
  exact unparts (wk q (.code SEq.yN SEq.yB 3 (some .boolean))) (wks q (.initialized SEq.yN.cls :: SEq.site))
theorem movedEq {Z s : State} {a0 args : Array Value} (hZ : Z.Warmed39 s.vm) (hw : ∀ d ∈ wordsEq, d.before a0 Z = true) : ∀ d ∈ wordsEq, d.before args s = true := fun d hd => by
  have t : ∀ d ∈ wordsEq, (d.onTables && d.keepsFace) = true := by decide +kernel
  exact RoadKit.mv hZ (hw d hd) (t d hd)
/-- the road's facts of a String, as the laws ask it -/
theorem txt_of {Z U : State} {a0 : Array Value} {kI : Nat} (wi : (Jvm.Cond.instantiable ST kI).before a0 Z = true) (al : Z.vm.Alike U.vm) {x t : Addr} {kb : ClassId} {cs : List Int32} {cd N2 : Int32} {vs : List Value} (E : RoadKit.Exa Z U.heap x ST) (V : RoadKit.Fld Z U.heap x ST "value" "[B" (.ref t)) (C : RoadKit.Fld Z U.heap x ST "coder" "B" (.int cd)) (K : RoadKit.Arv Z U.heap t kb .byte N2 vs (.int 0)) (hc : CodA cs cd N2 vs) (hb : ∀ c ∈ cs, ¬ c < 0 ∧ ¬ (65535 : Int32) < c) (l2 : cs.length ≤ 4000) :
    ∃ A, Txt x t A cd cs.length (fun j => cs.getD j 0) U := by
  obtain ⟨A, K1, K2, K3, K4, K5, K6⟩ := K
  have hcod := hc.cod (by omega) K3 K5
  obtain ⟨D, fV, fC, hB, F1, F2, g1, g2, -, -⟩ := strObj wi al E V C
  exact ⟨A, ⟨_, hB.2.2.1, D, hB.1, rfl, by cases q : D.vm <;> first | rfl | exact absurd q (hB.2.1.2 _)⟩, Has.of hB F1 g1, Has.of hB F2 g2, ⟨K1.1, State.isArrayOf_alike al K1.2.1, K1.2.2, by rcases hcod with ⟨-, q, -⟩ | ⟨-, q, -⟩ <;> omega⟩, hcod, fun j hj => by
    have e : cs.getD j 0 = cs[j] := by simp [List.getD_eq_getElem?_getD, hj]
    show ¬ cs.getD j 0 < 0 ∧ ¬ 65535 < cs.getD j 0
    rw [e]; exact hb _ (List.getElem_mem _)⟩
theorem same_list (cs ds : List Int32) : SameT cs.length (fun j => cs.getD j 0) ds.length (fun j => ds.getD j 0) ↔ cs = ds := by
  constructor
  · rintro ⟨e, q⟩
    refine List.ext_getElem e fun j h1 h2 => ?_
    have := q j h1
    simpa [List.getD_eq_getElem?_getD, h1, h2] using this
  · rintro rfl
    exact ⟨rfl, fun _ _ => rfl⟩
/-- **equals(Object) OF TWO SUCH STRINGS**: 1 just where the chars are the same -/
theorem eqW {p : Program} {l : Launch} {e : Env} {R : Room} {s : State} {args : Array Value} {below : List Frame} {len W : Nat} {Z : State} {a0 : Array Value} {h : Heap} (hZ : Z.Warmed39 s.vm) (hw : ∀ d ∈ wordsEq, d.before a0 Z = true) {kI : Nat} (wi : (Jvm.Cond.instantiable ST kI).before a0 Z = true)
    {x t : Addr} {kb : ClassId} {cs : List Int32} {cd N2 : Int32} {vs : List Value} (E : RoadKit.Exa Z h x ST) (V : RoadKit.Fld Z h x ST "value" "[B" (.ref t)) (C : RoadKit.Fld Z h x ST "coder" "B" (.int cd)) (K : RoadKit.Arv Z h t kb .byte N2 vs (.int 0)) (hc : CodA cs cd N2 vs) (hb : ∀ c ∈ cs, ¬ c < 0 ∧ ¬ (65535 : Int32) < c) (l2 : cs.length ≤ 4000)
    {y t' : Addr} {kb' : ClassId} {ds : List Int32} {cd' N2' : Int32} {vs' : List Value} (E' : RoadKit.Exa Z h y ST) (V' : RoadKit.Fld Z h y ST "value" "[B" (.ref t')) (C' : RoadKit.Fld Z h y ST "coder" "B" (.int cd')) (K' : RoadKit.Arv Z h t' kb' .byte N2' vs' (.int 0)) (hc' : CodA ds cd' N2' vs') (hb' : ∀ c ∈ ds, ¬ c < 0 ∧ ¬ (65535 : Int32) < c) (l2' : ds.length ≤ 4000)
    {z : Int32} (S : RoadKit.Sta Z h ST "COMPACT_STRINGS" "Z" (.int z)) (hz : ¬ z = 0) (hfr : 2 ≤ R.frames) (hlo : W + 28 ≤ R.locals) :
    Back l R p e below s args (⟨"java/lang/String", "equals", "(Ljava/lang/Object;)Z"⟩ : MethodName) len W (fun P a => a = #[.ref x, .ref y] ∧ P.U.heap = h ∧ P.cells + 0 ≤ R.cells ∧ P.slots + 0 ≤ R.slots)
      (fun P _ v B => ∃ L, (((v = some (.int 1) ∧ cs = ds) ∨ (v = some (.int 0) ∧ ¬ cs = ds)) ∧ L = [] ∧ B.U.heap = h) ∧ B.locs = P.locs ++ L ∧ B.cells = P.cells + 0 ∧ B.slots = P.slots + 0) := by
  intro m meth c P g ig mk a X hg hsize hdg hW hn hp'
  obtain ⟨rfl, rfl, r1, r2⟩ := hp'
  have al : Z.vm.Alike P.U.vm := hZ.alike.trans X.warmed.alike
  obtain ⟨A, hx⟩ := txt_of wi al E V C K hc hb l2
  obtain ⟨A', hy⟩ := txt_of wi al E' V' C' K' hc' hb' l2'
  obtain ⟨v, B, X', ⟨⟨w, hv, hh, hq⟩, hl, hk, hs⟩, st⟩ := SEq.pays x t A cd cs.length (fun j => cs.getD j 0) y t' A' cd' ds.length (fun j => ds.getD j 0) z (tabEq_of (movedEq hZ hw)) hfr hlo m meth c P g ig mk _ X hg hsize hdg hW hn ⟨r1, r2, rfl, hx, hy, sta_is al S, hz⟩
  refine ⟨v, B, X', ⟨[], ⟨?_, rfl, hh⟩, hl, hk, hs⟩, st⟩
  rcases hq with ⟨rfl, q⟩ | ⟨rfl, q⟩
  · exact Or.inl ⟨hv, (same_list cs ds).mp q⟩
  · exact Or.inr ⟨hv, fun e => q ((same_list cs ds).mpr e)⟩
end StrChars.Road
namespace StrChars
open Jvm Sem ClassFile Op Lib Jvm.Stand Jvm.Free.XT Jvm.Free.ALB Jvm.Free.JM Jvm.Free
open Jvm.Lib.Cold (StaticIs)
namespace ChN
def yN : MethodName := ⟨"java/lang/String", "charAt", "(I)C"⟩
abbrev yB : ByteArray := jdk_42_method_56_code
theorem d0 : decode yB 0 = .ok (.aload_n 0, 1) := by decide +kernel
theorem d1 : decode yB 1 = .ok (.invokevirtual 492, 3) := by decide +kernel
theorem d4 : decode yB 4 = .ok (.ifCond (.eq) 12, 3) := by decide +kernel
theorem d7 : decode yB 7 = .ok (.aload_n 0, 1) := by decide +kernel
theorem d8 : decode yB 8 = .ok (.getfield 9, 3) := by decide +kernel
theorem d11 : decode yB 11 = .ok (.iload_n 1, 1) := by decide +kernel
theorem d12 : decode yB 12 = .ok (.invokestatic 495, 3) := by decide +kernel
theorem d15 : decode yB 15 = .ok (.ireturn, 1) := by decide +kernel
def site : List Cond := [.fieldLink "java/lang/String" 9 "java/lang/String" "value" "[B", IsL.tab, LChA.tab] ++ virtW "java/lang/String" 492 "java/lang/String" IsL.yN IsL.yN ++ staticW "java/lang/String" 495 LChA.yN
def tab : Cond := tabOf yN yB 2 (some .char) site
def P (x t : Addr) (V : Cell) (n : Nat) (f : Nat → Int32) (z : Int32) (fm : Value) (i : Nat) (args : Array Value) (s : State) : Prop := args = #[.ref x, .int (Int32.ofNat i)] ∧ Txt x t V 0 n f s ∧ i < n ∧ StaticIs s "java/lang/String" "COMPACT_STRINGS" "Z" (.int z) ∧ ¬ z = 0 ∧ StaticIs s "jdk/internal/util/Preconditions" "SIOOBE_FORMATTER" "Ljava/util/function/BiFunction;" fm ∧ fm.isRef = true
def E (f : Nat → Int32) (i : Nat) (r : Option Value) (s u : State) : Prop := XT.PureE (some (.int (f i))) r s u
/-- charAt(i) of a Latin-1 String of n chars, i < n: f i -/
theorem law (l : Launch) (x t : Addr) (V : Cell) (n : Nat) (f : Nat → Int32) (z : Int32) (fm : Value) (i : Nat) : Law l yN 2 1 3 40 yB 2 (some .char) site (P x t V n f z fm i) (E f i) [] 0 0 := by
  refine Law.of_walk (plainFor_of_name (by decide +kernel)) (by decide +kernel) (by decide +kernel) (by decide) (fun _ _ h => by rw [h.1]; rfl) (fun _ U U' hal hh h => ⟨h.1, h.2.1.mv hal hh, h.2.2.1, h.2.2.2.1.there hal hh, h.2.2.2.2.1, h.2.2.2.2.2.1.there hal hh, h.2.2.2.2.2.2⟩) (fun r U U' V V' h1 hal h2 h => XT.PureE.mv r U U' V V' h1 hal h2 h) ?_
  intro p e s m args below meth c s₁ X0 hexec hbytes hml hret hlk hnm hown hh0 W hP
  obtain ⟨rfl, hx, hi, s1, hz, s3, rf⟩ := hP
  have v31 := hx.2.2.2.1.2.2.2
  have hr := hx.2.2.2.2.2 i hi
  have hx0 := hx.mv X0.warmed.alike hh0
  have c1 : Steps p.tables e below (s₁.setTop (entryFrame m #[.ref x, .int (Int32.ofNat i)] 2)) (s₁.setTop (mkF m 1 #[.val (.ref x), .val (.int (Int32.ofNat i))] [.ref x])) := Steps.trans (entry rfl) (by
    show Steps p.tables e below (s₁.setTop (mkF m 0 #[.val (.ref x), .val (.int (Int32.ofNat i))] [])) _
    refine XS.aloadN X0.here hexec rfl (hb hbytes d0) rfl rfl ?_
    exact Steps.refl _)
  obtain ⟨v2, T2, X2, E2, g2⟩ := X0.callV hexec (IsL.law l x 0 z) hown (wks W (virtW "java/lang/String" 492 "java/lang/String" IsL.yN IsL.yN)) rfl (by decide) (wk W IsL.tab) (W := 0) (Nat.le_of_ble_eq_true rfl) (Nat.le_of_ble_eq_true rfl) (Nat.le_refl _) (Nat.le_refl _) (hx0.1.fc X0.warmed.alike) hx0.1.is (g := (mkF m 1 #[.val (.ref x), .val (.int (Int32.ofNat i))] [.ref x])) rfl (by rw [hml]; rfl) c1 (argsL := []) (rest := []) rfl rfl (by show 2 * 0 + 0 ≤ _; decide) (hb hbytes d1) (⟨rfl, hx0.2.2.1, hx.2.2.2.2.1.cd, s1.there X0.warmed.alike hh0, hz⟩)
  obtain ⟨rfl, q2⟩ := E2
  have hh2 := q2.trans hh0
  have hx2 := hx.mv X2.warmed.alike hh2
  obtain ⟨-, k1, k2⟩ | ⟨k0, -⟩ := hx.2.2.2.2.1
  · have c3 : Steps p.tables e below (s₁.setTop (entryFrame m #[.ref x, .int (Int32.ofNat i)] 2)) (T2.setTop (mkF m 8 #[.val (.ref x), .val (.int (Int32.ofNat i))] [.ref x])) := Steps.trans g2 (by
      refine XS.ifNo X2.here hexec rfl (hb hbytes d4) rfl (i0_eq_f (by decide)) ?_
      refine XS.aloadN X2.here hexec rfl (hb hbytes d7) rfl rfl ?_
      exact Steps.refl _)
    obtain ⟨T4, X4, q4, st4⟩ := X2.hget hexec hown (wk W (.fieldLink "java/lang/String" 9 "java/lang/String" "value" "[B")) hx2.2.1 (g := (mkF m 8 #[.val (.ref x), .val (.int (Int32.ofNat i))] [.ref x])) rfl (rest := []) rfl (hb hbytes d8)
    have hh4 := q4.trans hh2
    have c5 : Steps p.tables e below (s₁.setTop (entryFrame m #[.ref x, .int (Int32.ofNat i)] 2)) (T4.setTop (mkF m 12 #[.val (.ref x), .val (.int (Int32.ofNat i))] [.int (Int32.ofNat i), .ref t])) := (c3.trans (st4 _ (Steps.refl _))).trans (by
      refine XS.iloadN X4.here hexec rfl (hb hbytes d11) rfl ?_
      exact Steps.refl _)
    obtain ⟨v6, T6, X6, E6, g6⟩ := X4.callS hexec (LChA.law l t V i (lo8 (f i)) fm) hown (wks W (staticW "java/lang/String" 495 LChA.yN)) (wk W LChA.tab) (W := 0) (Nat.le_of_ble_eq_true rfl) (Nat.le_of_ble_eq_true rfl) (Nat.le_refl _) (Nat.le_refl _) (g := (mkF m 12 #[.val (.ref x), .val (.int (Int32.ofNat i))] [.int (Int32.ofNat i), .ref t])) rfl (by rw [hml]; rfl) c5 (argsL := [.ref t, .int (Int32.ofNat i)]) (rest := []) rfl rfl (by show 2 * 0 + 0 ≤ _; decide) (hb hbytes d12) (⟨rfl, hx.2.2.2.1.mv X4.warmed.alike hh4, (k2 i hi).1, s3.there X4.warmed.alike hh4, rf⟩)
    obtain ⟨rfl, q6⟩ := E6
    rw [chr8_lo8 hr.1 (k2 i hi).2] at g6
    exact ⟨T6, some (.int (f i)), _, _, _, X6, rfl, rfl, rfl, (fun h => by cases h), ⟨rfl, q6.trans hh4⟩, fun fs hl => Steps.trans g6 (X6.ireturnOut hexec hret (narrow_ch hr.1 hr.2) (Or.inr (Or.inr (Or.inr (Or.inl rfl)))) (hb hbytes d15) hl)⟩
  · exact absurd k0 (by decide)
theorem pays {l : Launch} {R : Room} {p : Program} {e : Env} {below : List Frame} {s : State} {sargs : Array Value} {len W : Nat} (x t : Addr) (V : Cell) (n : Nat) (f : Nat → Int32) (z : Int32) (fm : Value) (i : Nat) (htab : tab.before sargs s = true) (hfr : 4 ≤ R.frames) (hlo : W + 53 ≤ R.locals) :
    Back l R p e below s sargs yN len W (fun A₁ a₁ => A₁.cells + 0 ≤ R.cells ∧ A₁.slots + 0 ≤ R.slots ∧ P x t V n f z fm i a₁ A₁.U) (fun A₁ _ v₁ B₁ => E f i v₁ A₁.U B₁.U ∧ B₁.locs = A₁.locs ++ [] ∧ B₁.cells = A₁.cells + 0 ∧ B₁.slots = A₁.slots + 0) :=
  (law l x t V n f z fm i).pays htab hfr (by omega)
end ChN
end StrChars
namespace StrChars.Road
open Jvm Sem ClassFile Op Lib Jvm.Stand Jvm.Free Jvm.Free.XT
open Jvm.Lib.Cold (StaticIs)
/-- the words of String.charAt(int), the Latin-1 road alone -/
abbrev wordsChN : List Jvm.Cond := [.code ChN.yN ChN.yB 2 (some .char), .initialized ST, .fieldLink ST 9 ST "value" "[B", .fieldLink ST 38 ST "COMPACT_STRINGS" "Z", .fieldLink ST 15 ST "coder" "B", .code IsL.yN IsL.yB 1 (some .boolean), .methodLink ST 492 IsL.yN, .declares IsL.yN, .selects ST IsL.yN IsL.yN, .instanceMethod IsL.yN,
  .methodLink ST 495 LChA.yN, .static LChA.yN, .code LChA.yN LChA.yB 2 (some .char), .initialized "java/lang/StringLatin1", .methodLink "java/lang/StringLatin1" 9 JO.Str_checkIndex.yN, .static JO.Str_checkIndex.yN, .code JO.Str_checkIndex.yN JO.Str_checkIndex.yB 2 none,
  .fieldLink ST 1053 "jdk/internal/util/Preconditions" "SIOOBE_FORMATTER" "Ljava/util/function/BiFunction;", .methodLink ST 1059 JC.PreCheck.yN, .static JC.PreCheck.yN, .code JC.PreCheck.yN JC.PreCheck.yB 3 (some .int), .initialized "jdk/internal/util/Preconditions"]
theorem tabChN_of {a : Array Value} {s : State} (h : ∀ w ∈ wordsChN, w.before a s = true) : ChN.tab.before a s = true := by
  have hp : JC.PreCheck.tab.before a s = true := unparts (wk h (.code JC.PreCheck.yN JC.PreCheck.yB 3 (some .int))) (wks h (.initialized JC.PreCheck.yN.cls :: JC.PreCheck.site))
  have qk := consq hp h
  have hk : JO.Str_checkIndex.tab.before a s = true := unparts (wk qk (.code JO.Str_checkIndex.yN JO.Str_checkIndex.yB 2 none)) (wks qk (.initialized JO.Str_checkIndex.yN.cls :: JO.Str_checkIndex.site))
  have ql := consq hk h
  have hl : LChA.tab.before a s = true := unparts (wk ql (.code LChA.yN LChA.yB 2 (some .char))) (wks ql (.initialized LChA.yN.cls :: LChA.site))
  have hi : IsL.tab.before a s = true := unparts (wk h (.code IsL.yN IsL.yB 1 (some .boolean))) (wks h (.initialized IsL.yN.cls :: IsL.site))
  have q := consq hi (consq hl h)
  exact unparts (wk q (.code ChN.yN ChN.yB 2 (some .char))) (wks q (.initialized ChN.yN.cls :: ChN.site))
theorem movedChN {Z s : State} {a0 args : Array Value} (hZ : Z.Warmed39 s.vm) (hw : ∀ d ∈ wordsChN, d.before a0 Z = true) : ∀ d ∈ wordsChN, d.before args s = true := fun d hd => by
  have t : ∀ d ∈ wordsChN, (d.onTables && d.keepsFace) = true := by decide +kernel
  exact RoadKit.mv hZ (hw d hd) (t d hd)
/-- **charAt(i) OF A LATIN-1 STRING**, i < n: the char -/
theorem chN {p : Program} {l : Launch} {e : Env} {R : Room} {s : State} {args : Array Value} {below : List Frame} {len W : Nat} {Z : State} {a0 : Array Value} {h : Heap} (hZ : Z.Warmed39 s.vm) (hw : ∀ d ∈ wordsChN, d.before a0 Z = true) {kI : Nat} (wi : (Jvm.Cond.instantiable ST kI).before a0 Z = true)
    {x t : Addr} {kb : ClassId} {cs : List Int32} {N2 z : Int32} {vs : List Value} {fm : Value} {i : Nat} {j : Int32} (E : RoadKit.Exa Z h x ST) (V : RoadKit.Fld Z h x ST "value" "[B" (.ref t)) (C : RoadKit.Fld Z h x ST "coder" "B" (.int 0)) (K : RoadKit.Arv Z h t kb .byte N2 vs (.int 0)) (hc : CodA cs 0 N2 vs) (hb : ∀ c ∈ cs, ¬ c < 0 ∧ ¬ (65535 : Int32) < c)
    (S : RoadKit.Sta Z h ST "COMPACT_STRINGS" "Z" (.int z)) (hz : ¬ z = 0) (F : RoadKit.Sta Z h "jdk/internal/util/Preconditions" "SIOOBE_FORMATTER" "Ljava/util/function/BiFunction;" fm) (rf : fm.isRef = true) (l2 : cs.length ≤ 4000) (hi : i < cs.length) (hj : j = Int32.ofNat i) (hfr : 4 ≤ R.frames) (hlo : W + 53 ≤ R.locals) :
    Back l R p e below s args (⟨"java/lang/String", "charAt", "(I)C"⟩ : MethodName) len W (fun P a => a = #[.ref x, .int j] ∧ P.U.heap = h ∧ P.cells + 0 ≤ R.cells ∧ P.slots + 0 ≤ R.slots)
      (fun P _ v B => ∃ L, (v = some (.int (cs.getD i 0)) ∧ L = [] ∧ B.U.heap = h) ∧ B.locs = P.locs ++ L ∧ B.cells = P.cells + 0 ∧ B.slots = P.slots + 0) := by
  subst hj
  intro m meth c P g ig mk a X hg hsize hdg hW hn hp'
  obtain ⟨rfl, rfl, r1, r2⟩ := hp'
  have al : Z.vm.Alike P.U.vm := hZ.alike.trans X.warmed.alike
  obtain ⟨A, hx⟩ := txt_of wi al E V C K hc hb l2
  obtain ⟨v, B, X', ⟨⟨hv, hh⟩, hl, hk, hs⟩, st⟩ := ChN.pays x t A cs.length (fun j => cs.getD j 0) z fm i (tabChN_of (movedChN hZ hw)) hfr hlo m meth c P g ig mk _ X hg hsize hdg hW hn ⟨r1, r2, rfl, hx, hi, sta_is al S, hz, sta_is al F, rf⟩
  exact ⟨v, B, X', ⟨[], ⟨hv, rfl, hh⟩, hl, hk, hs⟩, st⟩
end StrChars.Road
end Jvm.Pilot.@@N@@

namespace Jvm.Pilot.@@N@@
open Jvm Jvm.ClassFile Sem Op Lib Jvm.Free Jvm.Stand Jvm.LawKit Jvm.RoadKit Bundle Jvm.Pilot.@@N@@.Jvm.D
theorem own_hws {Z : State} {a0 : Array Value} (hw : ∀ d ∈ tables_1, d.before a0 Z = true) : ∀ d ∈ StrChars.Road.words, d.before a0 Z = true := fun d hd => hw d ((by decide +kernel : ∀ d ∈ StrChars.Road.words, d ∈ tables_1) d hd)
theorem own_hln {Z : State} {a0 : Array Value} (hw : ∀ d ∈ tables_1, d.before a0 Z = true) : ∀ d ∈ StrChars.Road.wordsLen, d.before a0 Z = true := fun d hd => hw d ((by decide +kernel : ∀ d ∈ StrChars.Road.wordsLen, d ∈ tables_1) d hd)
theorem own_hch {Z : State} {a0 : Array Value} (hw : ∀ d ∈ tables_1, d.before a0 Z = true) : ∀ d ∈ StrChars.Road.wordsChN, d.before a0 Z = true := fun d hd => hw d ((by decide +kernel : ∀ d ∈ StrChars.Road.wordsChN, d ∈ tables_1) d hd)
theorem own_heq {Z : State} {a0 : Array Value} (hw : ∀ d ∈ tables_1, d.before a0 Z = true) : ∀ d ∈ StrChars.Road.wordsEq, d.before a0 Z = true := fun d hd => hw d ((by decide +kernel : ∀ d ∈ StrChars.Road.wordsEq, d ∈ tables_1) d hd)
theorem own_codn {cs : List Int32} {N : Int32} (hN : N = Int32.ofNat cs.length) (hb : ∀ c ∈ cs, ¬ (255 : Int32) < c) : StrChars.Road.CodA cs 0 N ((cs.map (fun c => c.toInt8.toInt32)).map Value.int) := Or.inl ⟨rfl, hN, by rw [List.map_map]; rfl, hb⟩
def own_eqs (cs ds : List Int32) : Int32 := if cs = ds then 1 else 0
theorem own_up {cs : List Int32} (h : ∀ c ∈ cs, ¬ c < 0 ∧ ¬ (255 : Int32) < c) : ∀ c ∈ cs, ¬ c < 0 ∧ ¬ (65535 : Int32) < c := fun c hc => ⟨(h c hc).1, fun q => (h c hc).2 (by rw [Int32.lt_iff_toInt_lt] at q ⊢; have e1 : (65535 : Int32).toInt = 65535 := rfl; have e2 : (255 : Int32).toInt = 255 := rfl; omega)⟩
abbrev own_lc0 : List Int32 := [117, 115, 101, 114]
theorem own_lcod0 : StrChars.Road.CodA own_lc0 0 (4 : Int32) [.int 117, .int 115, .int 101, .int 114] := Or.inl ⟨rfl, rfl, rfl, by decide⟩
theorem own_lb8_0 : ∀ c ∈ own_lc0, ¬ c < 0 ∧ ¬ (255 : Int32) < c := by decide
theorem own_lbd0 : ∀ c ∈ own_lc0, ¬ c < 0 ∧ ¬ (65535 : Int32) < c := own_up own_lb8_0
theorem own_lle0 : own_lc0.length ≤ 4000 := Nat.le_of_ble_eq_true rfl
abbrev own_lc1 : List Int32 := [103, 114, 111, 117, 112]
theorem own_lcod1 : StrChars.Road.CodA own_lc1 0 (5 : Int32) [.int 103, .int 114, .int 111, .int 117, .int 112] := Or.inl ⟨rfl, rfl, rfl, by decide⟩
theorem own_lb8_1 : ∀ c ∈ own_lc1, ¬ c < 0 ∧ ¬ (255 : Int32) < c := by decide
theorem own_lbd1 : ∀ c ∈ own_lc1, ¬ c < 0 ∧ ¬ (65535 : Int32) < c := own_up own_lb8_1
theorem own_lle1 : own_lc1.length ≤ 4000 := Nat.le_of_ble_eq_true rfl
abbrev own_lc2 : List Int32 := [114, 111, 108, 101]
theorem own_lcod2 : StrChars.Road.CodA own_lc2 0 (4 : Int32) [.int 114, .int 111, .int 108, .int 101] := Or.inl ⟨rfl, rfl, rfl, by decide⟩
theorem own_lb8_2 : ∀ c ∈ own_lc2, ¬ c < 0 ∧ ¬ (255 : Int32) < c := by decide
theorem own_lbd2 : ∀ c ∈ own_lc2, ¬ c < 0 ∧ ¬ (65535 : Int32) < c := own_up own_lb8_2
theorem own_lle2 : own_lc2.length ≤ 4000 := Nat.le_of_ble_eq_true rfl
abbrev own_lc3 : List Int32 := [112, 114, 105, 118, 105, 108, 101, 103, 101]
theorem own_lcod3 : StrChars.Road.CodA own_lc3 0 (9 : Int32) [.int 112, .int 114, .int 105, .int 118, .int 105, .int 108, .int 101, .int 103, .int 101] := Or.inl ⟨rfl, rfl, rfl, by decide⟩
theorem own_lb8_3 : ∀ c ∈ own_lc3, ¬ c < 0 ∧ ¬ (255 : Int32) < c := by decide
theorem own_lbd3 : ∀ c ∈ own_lc3, ¬ c < 0 ∧ ¬ (65535 : Int32) < c := own_up own_lb8_3
theorem own_lle3 : own_lc3.length ≤ 4000 := Nat.le_of_ble_eq_true rfl
abbrev EL1 : List (String × Nat) := [("com/example/rolegrant/rolegrant/policy/KindNamedPinLaw", 36), ("com/example/rolegrant/rolegrant/policy/KindNamedPinLaw", 38), ("com/example/rolegrant/rolegrant/policy/KindNamedPinLaw", 40), ("com/example/rolegrant/rolegrant/policy/KindNamedPinLaw", 42), ("java/lang/String", 7)]
theorem own_EW {Z : State} {a0 : Array Value} (hw : ∀ d ∈ tables_1, d.before a0 Z = true) : EW Z a0 EL1 := (EW.cons (hw _ (List.mem_of_getElem? (i := 4) rfl)) (by decide +kernel) (EW.cons (hw _ (List.mem_of_getElem? (i := 83) rfl)) (by decide +kernel) (EW.cons (hw _ (List.mem_of_getElem? (i := 84) rfl)) (by decide +kernel) (EW.cons (hw _ (List.mem_of_getElem? (i := 85) rfl)) (by decide +kernel) (EW.cons (hw _ (List.mem_of_getElem? (i := 118) rfl)) (by decide +kernel) EW.nil)))))
theorem own_ELin : ∀ p ∈ EL1, p ∈ consts_1 := by decide +kernel
theorem own_wSin : ∀ a ∈ Bundle.stringAtoms, a ∈ tables_1 := by decide +kernel
theorem own_wS {Z : State} {a0 : Array Value} (hw : ∀ d ∈ tables_1, d.before a0 Z = true) : ∀ a ∈ Bundle.stringAtoms, a.before a0 Z = true := fun a h => hw a (own_wSin a h)
theorem own_backS {p : Program} {l : Launch} {e : Env} {R : Room} {s : State} {args : Array Value} {below : List Frame} {Z : State} {a0 : Array Value} {EL : List (String × Nat)} {h : Heap} {vm0 : Vm} {sf : List Addr} {y : MethodName} {bytes : ByteArray} {maxL : Nat} {ret : Option FieldType} {rm : Room} {len W : Nat} {as' : Array Value} {Q : Option Value → Heap → List Loc → Prop}
    (hM : MetFree l y (head1 [Cond.code y bytes maxL ret] rm) (fun a U => a = as' ∧ Z.Warmed39 U.vm ∧ U.heap = h ∧ CHv Z EL U.vm h ∧ ∀ x ∈ sf, Safe Z EL U.vm h x) (fun _ _ _ _ _ => True) (fun _ U o U' => ∃ v L, o = .returned v ∧ Q v U'.heap L ∧ CHr Z EL U.vm U.heap U'.vm U'.heap ∧ ReturnedEndW U o U' L rm.cells rm.slots))
    (hZ : Z.Warmed39 vm0) (wc : (Cond.code y bytes maxL ret).before a0 Z = true) (wz : (Cond.initialized y.cls).before a0 Z = true) (hf : rm.frames + 1 ≤ R.frames) (hl : W + (maxL + 11) + rm.locals ≤ R.locals) (hEL : EW Z a0 EL) (H : CHv Z EL vm0 h) (hsf : ∀ x ∈ sf, Safe Z EL vm0 h x) (hlt : ∀ x ∈ sf, x < h.size) :
    BackS l R p e below (s.setVm vm0) args y len W (fun A a => a = as' ∧ A.U.heap = h ∧ A.cells + rm.cells ≤ R.cells ∧ A.slots + rm.slots ≤ R.slots)
      (fun A _ v B => ∃ L, Q v B.U.heap L ∧ B.locs = A.locs ++ L ∧ B.cells = A.cells + rm.cells ∧ B.slots = A.slots + rm.slots ∧ CHr Z EL vm0 h B.U.vm B.U.heap) := by
  have key : ∀ {m : MethodId} {meth : Method} {c : Code} {A : Pt}, Stand p l e R (s.setVm vm0) m args below meth c A.U A.locs A.cells A.slots → CHr Z EL vm0 h A.U.vm h := fun Y => CHv.at Y hZ hEL H
  refine BackS.of_freeW (bytes := bytes) (maxL := maxL) (ret := ret) (E := fun _ first o t L k n => k = rm.cells ∧ n = rm.slots ∧ (∃ v, o = .returned v ∧ Q v t.heap L) ∧ CHr Z EL first.vm first.heap t.vm t.heap) hM hf hl ?_ ?_ (fun _ _ _ _ _ _ _ _ _ => trivial) ?_ ?_
  · intro m meth c A a Y hp
    have hU : Z.Warmed39 A.U.vm := wtrans (s := s.setVm vm0) hZ Y.warmed
    exact ⟨by show (Cond.and _ .tt).before a A.U = true; rw [Cond.before_and, mv hU wc]; rfl, mv hU wc, mv hU wz, hp.2.2.1, hp.2.2.2⟩
  · intro m meth c A a g mk Y hp
    exact ⟨hp.1, wtrans (s := s.setVm vm0) hZ Y.warmed, hp.2.1, (key Y).1, fun x hx => (key Y).safe (hlt x hx) (hsf x hx)⟩
  · rintro _ _ _ _ ⟨v, L, h1, h2, h3, h4⟩
    exact ⟨L, _, _, h4, rfl, rfl, ⟨v, h1, h2⟩, h3⟩
  · rintro m meth c A a g mk v t L k n Y hp _ _ ⟨e1, e2, ⟨v', e3, e4⟩, e5⟩
    cases e3; subst e1 e2
    refine ⟨L, e4, rfl, rfl, rfl, (key Y).trans ?_⟩
    rw [← hp.2.1]; exact e5
def OwnK (Z : State) (va : Addr) (u0 : Addr) (u1 : Addr) (u2 : Addr) (u3 : Addr) (w0 : Addr) (w1 : Addr) (w2 : Addr) (w3 : Addr) (y0 : Addr) (y1 : Addr) (y2 : Addr) (y3 : Addr) (kV : ClassId) (b0 : ClassId) (b1 : ClassId) (b2 : ClassId) (b3 : ClassId) : Prop := Sta Z Z.heap "com/example/rolegrant/rolegrant/policy/Kind" "$VALUES" "[Lcom/example/rolegrant/rolegrant/policy/Kind;" (.ref va) ∧ Exa Z Z.heap va "[Lcom/example/rolegrant/rolegrant/policy/Kind;" ∧ Arv Z Z.heap va kV (.object "com/example/rolegrant/rolegrant/policy/Kind") (4 : Int32) [(.ref u0), (.ref u1), (.ref u2), (.ref u3)] .null ∧ Sta Z Z.heap "com/example/rolegrant/rolegrant/policy/Kind" "USER" "Lcom/example/rolegrant/rolegrant/policy/Kind;" (.ref u0) ∧ Fld Z Z.heap u0 "com/example/rolegrant/rolegrant/policy/Kind" "word" "Ljava/lang/String;" (.ref w0) ∧ Exa Z Z.heap w0 "java/lang/String" ∧ Fld Z Z.heap w0 "java/lang/String" "coder" "B" (.int (0 : Int32)) ∧ Fld Z Z.heap w0 "java/lang/String" "value" "[B" (.ref y0) ∧ Arv Z Z.heap y0 b0 .byte (4 : Int32) [(.int (117 : Int32)), (.int (115 : Int32)), (.int (101 : Int32)), (.int (114 : Int32))] (.int (0 : Int32)) ∧ Sta Z Z.heap "com/example/rolegrant/rolegrant/policy/Kind" "GROUP" "Lcom/example/rolegrant/rolegrant/policy/Kind;" (.ref u1) ∧ Fld Z Z.heap u1 "com/example/rolegrant/rolegrant/policy/Kind" "word" "Ljava/lang/String;" (.ref w1) ∧ Exa Z Z.heap w1 "java/lang/String" ∧ Fld Z Z.heap w1 "java/lang/String" "coder" "B" (.int (0 : Int32)) ∧ Fld Z Z.heap w1 "java/lang/String" "value" "[B" (.ref y1) ∧ Arv Z Z.heap y1 b1 .byte (5 : Int32) [(.int (103 : Int32)), (.int (114 : Int32)), (.int (111 : Int32)), (.int (117 : Int32)), (.int (112 : Int32))] (.int (0 : Int32)) ∧ Sta Z Z.heap "com/example/rolegrant/rolegrant/policy/Kind" "ROLE" "Lcom/example/rolegrant/rolegrant/policy/Kind;" (.ref u2) ∧ Fld Z Z.heap u2 "com/example/rolegrant/rolegrant/policy/Kind" "word" "Ljava/lang/String;" (.ref w2) ∧ Exa Z Z.heap w2 "java/lang/String" ∧ Fld Z Z.heap w2 "java/lang/String" "coder" "B" (.int (0 : Int32)) ∧ Fld Z Z.heap w2 "java/lang/String" "value" "[B" (.ref y2) ∧ Arv Z Z.heap y2 b2 .byte (4 : Int32) [(.int (114 : Int32)), (.int (111 : Int32)), (.int (108 : Int32)), (.int (101 : Int32))] (.int (0 : Int32)) ∧ Sta Z Z.heap "com/example/rolegrant/rolegrant/policy/Kind" "PRIVILEGE" "Lcom/example/rolegrant/rolegrant/policy/Kind;" (.ref u3) ∧ Fld Z Z.heap u3 "com/example/rolegrant/rolegrant/policy/Kind" "word" "Ljava/lang/String;" (.ref w3) ∧ Exa Z Z.heap w3 "java/lang/String" ∧ Fld Z Z.heap w3 "java/lang/String" "coder" "B" (.int (0 : Int32)) ∧ Fld Z Z.heap w3 "java/lang/String" "value" "[B" (.ref y3) ∧ Arv Z Z.heap y3 b3 .byte (9 : Int32) [(.int (112 : Int32)), (.int (114 : Int32)), (.int (105 : Int32)), (.int (118 : Int32)), (.int (105 : Int32)), (.int (108 : Int32)), (.int (101 : Int32)), (.int (103 : Int32)), (.int (101 : Int32))] (.int (0 : Int32))
def own_pick (cs : List Int32) (u0 u1 u2 u3 : Addr) : Value := if cs = own_lc0 then .ref u0 else if cs = own_lc1 then .ref u1 else if cs = own_lc2 then .ref u2 else if cs = own_lc3 then .ref u3 else .null
theorem own_pickref (cs : List Int32) (u0 u1 u2 u3 : Addr) : (own_pick cs u0 u1 u2 u3).isRef = true := by
  unfold own_pick; split
  · rfl
  split
  · rfl
  split
  · rfl
  split <;> rfl
theorem own_pickcat (cs : List Int32) (u0 u1 u2 u3 : Addr) : (own_pick cs u0 u1 u2 u3).category = 1 := by
  unfold own_pick; split
  · rfl
  split
  · rfl
  split
  · rfl
  split <;> rfl
theorem own_wx (cs : List Int32) (u0 u1 u2 u3 : Addr) : 2 * 0 + ([own_pick cs u0 u1 u2 u3].map fun v => v.category).sum ≤ 1 := by simp [own_pickcat]
theorem own_ne {α : Type} {a b : α} (h : ¬ a = b) : ¬ b = a := fun q => h q.symm
theorem own_eq0 {cs ds : List Int32} (h : ¬ cs = ds) : own_eqs cs ds = (0 : Int32) := if_neg h
theorem own_eq1 {cs ds : List Int32} (h : cs = ds) : ¬ (own_eqs cs ds = (0 : Int32)) := by rw [own_eqs, if_pos h]; decide
theorem own_cod0 : StrChars.Road.CodA ([] : List Int32) 0 (0 : Int32) [] := Or.inl ⟨rfl, rfl, rfl, by decide⟩
theorem own_bd0 : ∀ c ∈ ([] : List Int32), ¬ c < 0 ∧ ¬ (65535 : Int32) < c := fun c hc => absurd hc (List.not_mem_nil)
theorem own_all0 : ∀ c ∈ ([] : List Int32), ¬ c < 0 ∧ ¬ (255 : Int32) < c := fun c hc => absurd hc (List.not_mem_nil)
theorem own_allS {a : Int32} {cs : List Int32} (h : ¬ a < 0 ∧ ¬ (255 : Int32) < a) (t : ∀ c ∈ cs, ¬ c < 0 ∧ ¬ (255 : Int32) < c) : ∀ c ∈ a :: cs, ¬ c < 0 ∧ ¬ (255 : Int32) < c := fun c hc => by
  rcases List.mem_cons.mp hc with rfl | q
  · exact h
  · exact t c q
theorem own_and (x : Int32) : (¬ (x &&& (255 : Int32)) < 0 ∧ ¬ (255 : Int32) < (x &&& (255 : Int32))) ∧ nar .char (x &&& (255 : Int32)) = (x &&& (255 : Int32)) := by
  have d1 := c_mask x 255 8 (by decide) (by decide)
  refine ⟨⟨?_, ?_⟩, i2c_mask x⟩
  · rw [Int32.lt_iff_toInt_lt, d1, show (0 : Int32).toInt = 0 by decide]; omega
  · rw [Int32.lt_iff_toInt_lt, d1, show (255 : Int32).toInt = 255 by decide]; omega
theorem own_ch (x : Int32) : (¬ ((x &&& (255 : Int32)).toUInt32.toUInt16.toUInt32.toInt32) < 0 ∧ ¬ (255 : Int32) < ((x &&& (255 : Int32)).toUInt32.toUInt16.toUInt32.toInt32)) ∧ nar .char ((x &&& (255 : Int32)).toUInt32.toUInt16.toUInt32.toInt32) = ((x &&& (255 : Int32)).toUInt32.toUInt16.toUInt32.toInt32) := by
  rw [i2c_mask]; exact own_and x
theorem own_nch (x : Int32) : (¬ (nar .char ((x &&& (255 : Int32)).toUInt32.toUInt16.toUInt32.toInt32)) < 0 ∧ ¬ (255 : Int32) < (nar .char ((x &&& (255 : Int32)).toUInt32.toUInt16.toUInt32.toInt32))) ∧ nar .char (nar .char ((x &&& (255 : Int32)).toUInt32.toUInt16.toUInt32.toInt32)) = nar .char ((x &&& (255 : Int32)).toUInt32.toUInt16.toUInt32.toInt32) := by
  have h := own_ch x
  rw [h.2]; exact h
theorem own_small (x : Int32) (h : ¬ x < 0 ∧ ¬ (255 : Int32) < x) : nar .char x = x := by
  obtain ⟨h1, h2⟩ := h
  rw [Int32.lt_iff_toInt_lt, show (0 : Int32).toInt = 0 by decide] at h1
  rw [Int32.lt_iff_toInt_lt, show (255 : Int32).toInt = 255 by decide] at h2
  obtain ⟨n, hn⟩ : ∃ n : Nat, x.toInt = n := ⟨x.toInt.toNat, by omega⟩
  have hx : x = Int32.ofNat n := Int32.toInt_inj.mp (by rw [hn]; exact (Int32.toInt_ofNat_of_lt (by omega)).symm)
  have hlt : n < 256 := by omega
  subst hx
  have key : ∀ k : Fin 256, nar .char (Int32.ofNat k.val) = Int32.ofNat k.val := by decide +kernel
  exact key ⟨n, hlt⟩
theorem own_getD {cs : List Int32} (h : ∀ c ∈ cs, ¬ c < 0 ∧ ¬ (255 : Int32) < c) (k : Nat) : (¬ ((cs).getD k 0) < 0 ∧ ¬ (255 : Int32) < ((cs).getD k 0)) ∧ nar .char ((cs).getD k 0) = (cs).getD k 0 := by
  have b : ¬ ((cs).getD k 0) < 0 ∧ ¬ (255 : Int32) < ((cs).getD k 0) := by
    rw [List.getD_eq_getElem?_getD]
    cases q : cs[k]? with
    | none => exact ⟨by decide, by decide⟩
    | some c => exact h c (List.mem_of_getElem? q)
  exact ⟨b, own_small _ b⟩
theorem own_idx {p : Int32} {n : Nat} (h0 : ¬ p < 0) (h : p < Int32.ofNat n) (hn : n ≤ 4000) : p.toNatClampNeg < n ∧ p = Int32.ofNat p.toNatClampNeg := by
  have e := nat_of h0
  rw [Int32.lt_iff_toInt_lt, Int32.toInt_ofNat_of_lt (by omega)] at h
  have l : p.toNatClampNeg < n := by omega
  refine ⟨l, Int32.toInt_inj.mp ?_⟩
  rw [Int32.toInt_ofNat_of_lt (by omega), e]
theorem own_mod (x m : Int32) (k : Nat) (hm : m.toInt = k) (hk : 0 < k) (hk2 : k < 1000) : ∃ n : Nat, n < k ∧ (x &&& (2147483647 : Int32)) % m = Int32.ofNat n := by
  have d1 := c_mask x 2147483647 31 (by decide) (by decide)
  have hx : 0 ≤ (x &&& (2147483647 : Int32)).toInt := by omega
  have r : ((x &&& (2147483647 : Int32)) % m).toInt = (x &&& (2147483647 : Int32)).toInt % (k : Int) := by
    rw [Int32.toInt_mod, hm, Int.tmod_eq_emod_of_nonneg hx]
  have b1 := Int.emod_nonneg (x &&& (2147483647 : Int32)).toInt (by omega : (k : Int) ≠ 0)
  have b2 := Int.emod_lt_of_pos (x &&& (2147483647 : Int32)).toInt (by omega : (0 : Int) < k)
  refine ⟨((x &&& (2147483647 : Int32)).toInt % (k : Int)).toNat, by omega, Int32.toInt_inj.mp ?_⟩
  rw [r, Int32.toInt_ofNat_of_lt (by omega)]; omega
theorem own_n11 (x : Int32) : ((x &&& (2147483647 : Int32)) % (11 : Int32)) = (0 : Int32) ∨ ((x &&& (2147483647 : Int32)) % (11 : Int32)) = (1 : Int32) ∨ ((x &&& (2147483647 : Int32)) % (11 : Int32)) = (2 : Int32) ∨ ((x &&& (2147483647 : Int32)) % (11 : Int32)) = (3 : Int32) ∨ ((x &&& (2147483647 : Int32)) % (11 : Int32)) = (4 : Int32) ∨ ((x &&& (2147483647 : Int32)) % (11 : Int32)) = (5 : Int32) ∨ ((x &&& (2147483647 : Int32)) % (11 : Int32)) = (6 : Int32) ∨ ((x &&& (2147483647 : Int32)) % (11 : Int32)) = (7 : Int32) ∨ ((x &&& (2147483647 : Int32)) % (11 : Int32)) = (8 : Int32) ∨ ((x &&& (2147483647 : Int32)) % (11 : Int32)) = (9 : Int32) ∨ ((x &&& (2147483647 : Int32)) % (11 : Int32)) = (10 : Int32) := by
  obtain ⟨n, hn, e⟩ := own_mod x 11 11 (by decide) (by decide) (by decide)
  rw [e]
  have : n = 0 ∨ n = 1 ∨ n = 2 ∨ n = 3 ∨ n = 4 ∨ n = 5 ∨ n = 6 ∨ n = 7 ∨ n = 8 ∨ n = 9 ∨ n = 10 := by omega
  rcases this with rfl | rfl | rfl | rfl | rfl | rfl | rfl | rfl | rfl | rfl | rfl <;> decide
theorem own_nlen {cs : List Int32} (h : cs = own_lc0 ∨ cs = own_lc1 ∨ cs = own_lc2 ∨ cs = own_lc3) : (Int32.ofNat (cs).length) = (0 : Int32) ∨ (Int32.ofNat (cs).length) = (1 : Int32) ∨ (Int32.ofNat (cs).length) = (2 : Int32) ∨ (Int32.ofNat (cs).length) = (3 : Int32) ∨ (Int32.ofNat (cs).length) = (4 : Int32) ∨ (Int32.ofNat (cs).length) = (5 : Int32) ∨ (Int32.ofNat (cs).length) = (6 : Int32) ∨ (Int32.ofNat (cs).length) = (7 : Int32) ∨ (Int32.ofNat (cs).length) = (8 : Int32) ∨ (Int32.ofNat (cs).length) = (9 : Int32) ∨ (Int32.ofNat (cs).length) = (10 : Int32) := by
  rcases h with rfl | rfl | rfl | rfl <;> decide
theorem own_arv {Z : State} {h : Heap} {a : Addr} {k : ClassId} {ty : FieldType} {z : Int32} {vs : List Value} {dv : Value} (F : Arh Z h a k ty z [] vs dv) : Arv Z h a k ty z vs dv := F
theorem own_eqi {t : Term} {k : Int32} {s : State} {a0 : Array Value} (h : (Jvm.Cond.eq t (Jvm.Term.int k)).value a0 s none s [] = some true) : t.eval a0 s none [] s = some (.int k) := by
  obtain ⟨x, y, hx, hy, hk, -⟩ := cmp_v (Or.inl h)
  have e : y = .int k := by
    have := Term.int_eval (args := a0) (first := s) (o := none) (idx := []) (s := s) k
    rw [this] at hy; exact (Option.some.inj hy).symm
  subst e
  cases x <;> first | (exfalso; simp [Kin, Value.isRef] at hk; done) | skip
  rename_i x
  have := gotT (Cond.eq_ints hx hy) h
  rw [hx, this]
theorem own_eqr {t u : Term} {a : Addr} {s : State} {a0 : Array Value} (h : (Jvm.Cond.eq t u).value a0 s none s [] = some true) (hu : u.eval a0 s none [] s = some (.ref a)) : t.eval a0 s none [] s = some (.ref a) := by
  obtain ⟨x, y, hx, hy, hk, -⟩ := cmp_v (Or.inl h)
  rw [hu] at hy; cases hy
  have hr : x.isRef = true := by cases x <;> first | rfl | (exfalso; simp [Kin, Value.isRef] at hk; done)
  have := gotT (eq_R hx hu hr rfl) h
  rw [hx, this]
theorem own_arrv {s : State} {a0 : Array Value} (hf : Fit s) {t : Term} {ty : FieldType} {z : Int32} {vs : List Value} {dv : Value} {a : Addr} (ev : t.eval a0 s none [] s = some (.ref a)) (ha : (Jvm.Cond.arrayOf t ty).value a0 s none s [] = some true) (hl : (Jvm.Term.length t).eval a0 s none [] s = some (.int z)) (hz : ¬ z < 0) (hn : z.toNatClampNeg = vs.length) (he : ∀ c : Cell, s.heap[a]? = some c → HasL c 0 vs) : ∃ k, Arv s s.heap a k ty z vs dv := by
  obtain ⟨c, A⟩ := Arr.start ev ha
  obtain ⟨q1, q2⟩ : c.slots.size < 2 ^ 31 ∧ c.slots.size.toInt32 = z := by
    simp only [Term.eval, ev] at hl
    cases hc : s.arrayAt? a with
    | none => simp [hc] at hl
    | some c' =>
      have e : c' = c := by
        simp only [State.arrayAt?, A.1] at hc
        simp only [Option.bind_eq_bind, Option.bind_some, Option.bind_eq_some_iff] at hc
        obtain ⟨k, -, hc⟩ := hc
        split at hc
        · cases hc
        · split at hc
          · exact (Option.some.inj hc).symm
          · cases hc
      subst e
      simp [hc] at hl
      exact ⟨hl.1, hl.2⟩
  exact ⟨_, Arv.start hf A q1 q2 hz hn (he c A.1)⟩

theorem own_wb {Z : State} {a0 : Array Value} (hw : ∀ d ∈ tables_1, d.before a0 Z = true) : (Jvm.Cond.arrayClass .byte).before a0 Z = true := (hw _ (List.mem_of_getElem? (i := 7) rfl))
theorem own_wi {Z : State} {a0 : Array Value} (hw : ∀ d ∈ tables_1, d.before a0 Z = true) : (Jvm.Cond.instantiable "java/lang/String" 4).before a0 Z = true := (hw _ (List.mem_of_getElem? (i := 6) rfl))
set_option maxRecDepth 65536 in
set_option maxHeartbeats 4000000 in
theorem own_narrow {s : State} {a0 : Array Value} (hf : Fit s) (hw : ∀ d ∈ tables_1, d.before a0 s = true) (h : narrow_1.value a0 s none s [] = some true) : ∃ (va : Addr) (u0 : Addr) (u1 : Addr) (u2 : Addr) (u3 : Addr) (w0 : Addr) (w1 : Addr) (w2 : Addr) (w3 : Addr) (y0 : Addr) (y1 : Addr) (y2 : Addr) (y3 : Addr) (kV : ClassId) (b0 : ClassId) (b1 : ClassId) (b2 : ClassId) (b3 : ClassId), OwnK s va u0 u1 u2 u3 w0 w1 w2 w3 y0 y1 y2 y3 kV b0 b1 b2 b3 := by
  rw [narrow_1] at h
  obtain ⟨n0, m0⟩ := and_e h
  obtain ⟨n1, m1⟩ := and_e m0
  obtain ⟨n2, m2⟩ := and_e m1
  obtain ⟨n3, m3⟩ := and_e m2
  obtain ⟨n4, m4⟩ := and_e m3
  obtain ⟨n5, m5⟩ := and_e m4
  obtain ⟨n6, m6⟩ := and_e m5
  obtain ⟨n7, m7⟩ := and_e m6
  obtain ⟨n8, m8⟩ := and_e m7
  obtain ⟨n9, m9⟩ := and_e m8
  obtain ⟨n10, m10⟩ := and_e m9
  obtain ⟨n11, m11⟩ := and_e m10
  obtain ⟨n12, m12⟩ := and_e m11
  obtain ⟨n13, m13⟩ := and_e m12
  obtain ⟨n14, m14⟩ := and_e m13
  obtain ⟨n15, m15⟩ := and_e m14
  obtain ⟨n16, m16⟩ := and_e m15
  obtain ⟨n17, m17⟩ := and_e m16
  obtain ⟨n18, m18⟩ := and_e m17
  obtain ⟨n19, m19⟩ := and_e m18
  obtain ⟨n20, m20⟩ := and_e m19
  obtain ⟨n21, m21⟩ := and_e m20
  obtain ⟨n22, m22⟩ := and_e m21
  obtain ⟨n23, m23⟩ := and_e m22
  obtain ⟨n24, m24⟩ := and_e m23
  obtain ⟨n25, m25⟩ := and_e m24
  obtain ⟨n26, m26⟩ := and_e m25
  obtain ⟨n27, m27⟩ := and_e m26
  obtain ⟨n28, m28⟩ := and_e m27
  obtain ⟨n29, m29⟩ := and_e m28
  obtain ⟨n30, m30⟩ := and_e m29
  obtain ⟨n31, m31⟩ := and_e m30
  obtain ⟨n32, m32⟩ := and_e m31
  obtain ⟨n33, m33⟩ := and_e m32
  obtain ⟨n34, m34⟩ := and_e m33
  obtain ⟨n35, m35⟩ := and_e m34
  obtain ⟨n36, m36⟩ := and_e m35
  obtain ⟨n37, m37⟩ := and_e m36
  obtain ⟨n38, m38⟩ := and_e m37
  obtain ⟨n39, m39⟩ := and_e m38
  obtain ⟨n40, m40⟩ := and_e m39
  obtain ⟨n41, m41⟩ := and_e m40
  obtain ⟨n42, m42⟩ := and_e m41
  obtain ⟨n43, m43⟩ := and_e m42
  obtain ⟨n44, m44⟩ := and_e m43
  obtain ⟨n45, m45⟩ := and_e m44
  obtain ⟨n46, m46⟩ := and_e m45
  obtain ⟨n47, m47⟩ := and_e m46
  have n48 := m47
  obtain ⟨u0, eu0⟩ := exa_v n3
  obtain ⟨w0, ew0⟩ := exa_v n11
  obtain ⟨y0, ey0⟩ := arr_v n13
  obtain ⟨b0, A0⟩ := own_arrv (dv := (.int (0 : Int32))) (z := (4 : Int32)) (vs := [(.int (117 : Int32)), (.int (115 : Int32)), (.int (101 : Int32)), (.int (114 : Int32))]) hf ey0 n13 (own_eqi n14) (by decide) rfl (fun c hc => ⟨(elem_in (own_eqi n27) ey0 rfl hc).2, (elem_in (own_eqi n29) ey0 rfl hc).2, (elem_in (own_eqi n30) ey0 rfl hc).2, (elem_in (own_eqi n31) ey0 rfl hc).2, trivial⟩)
  obtain ⟨u1, eu1⟩ := exa_v n5
  obtain ⟨w1, ew1⟩ := exa_v n15
  obtain ⟨y1, ey1⟩ := arr_v n17
  obtain ⟨b1, A1⟩ := own_arrv (dv := (.int (0 : Int32))) (z := (5 : Int32)) (vs := [(.int (103 : Int32)), (.int (114 : Int32)), (.int (111 : Int32)), (.int (117 : Int32)), (.int (112 : Int32))]) hf ey1 n17 (own_eqi n18) (by decide) rfl (fun c hc => ⟨(elem_in (own_eqi n35) ey1 rfl hc).2, (elem_in (own_eqi n36) ey1 rfl hc).2, (elem_in (own_eqi n37) ey1 rfl hc).2, (elem_in (own_eqi n38) ey1 rfl hc).2, (elem_in (own_eqi n39) ey1 rfl hc).2, trivial⟩)
  obtain ⟨u2, eu2⟩ := exa_v n7
  obtain ⟨w2, ew2⟩ := exa_v n19
  obtain ⟨y2, ey2⟩ := arr_v n21
  obtain ⟨b2, A2⟩ := own_arrv (dv := (.int (0 : Int32))) (z := (4 : Int32)) (vs := [(.int (114 : Int32)), (.int (111 : Int32)), (.int (108 : Int32)), (.int (101 : Int32))]) hf ey2 n21 (own_eqi n22) (by decide) rfl (fun c hc => ⟨(elem_in (own_eqi n28) ey2 rfl hc).2, (elem_in (own_eqi n32) ey2 rfl hc).2, (elem_in (own_eqi n33) ey2 rfl hc).2, (elem_in (own_eqi n34) ey2 rfl hc).2, trivial⟩)
  obtain ⟨u3, eu3⟩ := exa_v n9
  obtain ⟨w3, ew3⟩ := exa_v n23
  obtain ⟨y3, ey3⟩ := arr_v n25
  obtain ⟨b3, A3⟩ := own_arrv (dv := (.int (0 : Int32))) (z := (9 : Int32)) (vs := [(.int (112 : Int32)), (.int (114 : Int32)), (.int (105 : Int32)), (.int (118 : Int32)), (.int (105 : Int32)), (.int (108 : Int32)), (.int (101 : Int32)), (.int (103 : Int32)), (.int (101 : Int32))]) hf ey3 n25 (own_eqi n26) (by decide) rfl (fun c hc => ⟨(elem_in (own_eqi n40) ey3 rfl hc).2, (elem_in (own_eqi n41) ey3 rfl hc).2, (elem_in (own_eqi n42) ey3 rfl hc).2, (elem_in (own_eqi n43) ey3 rfl hc).2, (elem_in (own_eqi n44) ey3 rfl hc).2, (elem_in (own_eqi n45) ey3 rfl hc).2, (elem_in (own_eqi n46) ey3 rfl hc).2, (elem_in (own_eqi n47) ey3 rfl hc).2, (elem_in (own_eqi n48) ey3 rfl hc).2, trivial⟩)
  obtain ⟨va, eva⟩ := arr_v n0
  obtain ⟨kV, AV⟩ := own_arrv (dv := .null) (z := (4 : Int32)) (vs := [(.ref u0), (.ref u1), (.ref u2), (.ref u3)]) hf eva n0 (own_eqi n2) (by decide) rfl (fun c hc => ⟨(elem_in (own_eqr n4 eu0) eva rfl hc).2, (elem_in (own_eqr n6 eu1) eva rfl hc).2, (elem_in (own_eqr n8 eu2) eva rfl hc).2, (elem_in (own_eqr n10 eu3) eva rfl hc).2, trivial⟩)
  exact ⟨va, u0, u1, u2, u3, w0, w1, w2, w3, y0, y1, y2, y3, kV, b0, b1, b2, b3, ⟨Sta.start eva (Or.inr ⟨(hw _ (List.mem_of_getElem? (i := 46) rfl)), (hw _ (List.mem_of_getElem? (i := 52) rfl))⟩), Exa.start eva n1, AV, Sta.start eu0 (Or.inr ⟨(hw _ (List.mem_of_getElem? (i := 46) rfl)), (hw _ (List.mem_of_getElem? (i := 60) rfl))⟩), Fld.start ((fld_at eu0).symm.trans ew0), Exa.start ew0 n11, Fld.start ((fld_at ew0).symm.trans (own_eqi n12)), Fld.start ((fld_at ew0).symm.trans ey0), A0, Sta.start eu1 (Or.inr ⟨(hw _ (List.mem_of_getElem? (i := 46) rfl)), (hw _ (List.mem_of_getElem? (i := 61) rfl))⟩), Fld.start ((fld_at eu1).symm.trans ew1), Exa.start ew1 n15, Fld.start ((fld_at ew1).symm.trans (own_eqi n16)), Fld.start ((fld_at ew1).symm.trans ey1), A1, Sta.start eu2 (Or.inr ⟨(hw _ (List.mem_of_getElem? (i := 46) rfl)), (hw _ (List.mem_of_getElem? (i := 62) rfl))⟩), Fld.start ((fld_at eu2).symm.trans ew2), Exa.start ew2 n19, Fld.start ((fld_at ew2).symm.trans (own_eqi n20)), Fld.start ((fld_at ew2).symm.trans ey2), A2, Sta.start eu3 (Or.inr ⟨(hw _ (List.mem_of_getElem? (i := 46) rfl)), (hw _ (List.mem_of_getElem? (i := 63) rfl))⟩), Fld.start ((fld_at eu3).symm.trans ew3), Exa.start ew3 n23, Fld.start ((fld_at ew3).symm.trans (own_eqi n24)), Fld.start ((fld_at ew3).symm.trans ey3), A3⟩⟩
theorem ltA {a b : Nat} (h : @LT.lt Addr instLTNat a b) : @LT.lt Nat instLTNat a b := h
theorem ltN {a b : Nat} (h : @LT.lt Nat instLTNat a b) : @LT.lt Addr instLTNat a b := h
theorem wz {a b : Nat} (h : a = b) : a ≤ b := Nat.le_of_eq h
theorem neN {a b : Nat} (h : @Ne Nat a b) : @Ne Addr a b := h
abbrev HW (Z : State) (a0 : Array Value) : Prop := ∀ d ∈ tables_1, d.before a0 Z = true
abbrev RM (f c s l : Nat) : Room := { frames := f, cells := c, slots := s, locals := l }
abbrev OwnM (l : Launch) (Z : State) (h0 : Heap) (y : MethodName) (cs : List Jvm.Cond) (rm : Room) (as' : Array Value) (Q : Option Value → Heap → List Loc → Prop) : Prop := MetFree l y (head1 cs rm) (fun a U => a = as' ∧ Z.Warmed39 U.vm ∧ U.heap = h0) (fun _ _ _ _ _ => True) (fun _ U o U' => ∃ v L, o = .returned v ∧ Q v U'.heap L ∧ FrameEnd U o U' L rm.cells rm.slots)
abbrev OwnW (l : Launch) (Z : State) (h0 : Heap) (y : MethodName) (cs : List Jvm.Cond) (rm : Room) (as' : Array Value) (sf : List Addr) (Q : Option Value → Heap → List Loc → Prop) : Prop := MetFree l y (head1 cs rm) (fun a U => a = as' ∧ Z.Warmed39 U.vm ∧ U.heap = h0 ∧ CHv Z EL1 U.vm h0 ∧ ∀ x ∈ sf, Safe Z EL1 U.vm h0 x) (fun _ _ _ _ _ => True) (fun _ U o U' => ∃ v L, o = .returned v ∧ Q v U'.heap L ∧ CHr Z EL1 U.vm U.heap U'.vm U'.heap ∧ ReturnedEndW U o U' L rm.cells rm.slots)
set_option maxRecDepth 65536
set_option maxHeartbeats 40000000
abbrev GO (p : Program) (e : Env) (below : List Frame) (T : State) (g : JFrame) (t : State) : Prop := Steps p.tables e below (T.setTop g) t
theorem wd {Z : State} {a0 : Array Value} (hw : ∀ d ∈ tables_1, d.before a0 Z = true) (i : Nat) {d : Jvm.Cond} (h : tables_1[i]? = some d) : d.before a0 Z = true := hw _ (List.mem_of_getElem? h)
abbrev la0 (x0 : Int32) (x1 : Int32) (x2 : Int32) (x3 : Int32) : Array Slot := #[.val (.int x0), .val (.int x1), .val (.int x2), .val (.int x3), .unset, .unset]
abbrev la1 (x0 : Int32) (x1 : Int32) (x2 : Int32) (x3 : Int32) (x4 : Int32) : Array Slot := #[.val (.int x0), .val (.int x1), .val (.int x2), .val (.int x3), .val (.int x4), .unset]
abbrev la2 (x0 : Int32) (x1 : Int32) (x2 : Int32) (x3 : Int32) (x4 : Int32) (x5 : Int32) : Array Slot := #[.val (.int x0), .val (.int x1), .val (.int x2), .val (.int x3), .val (.int x4), .val (.int x5)]
abbrev la3 (x0 : Int32) (x1 : Addr) (x2 : Int32) (x3 : Int32) (x4 : Int32) (x5 : Int32) (x6 : Int32) (x7 : Int32) : Array Slot := #[.val (.int x0), .val (.ref x1), .val (.int x2), .val (.int x3), .val (.int x4), .val (.int x5), .val (.int x6), .val (.int x7)]
abbrev la4 (x0 : Addr) (x1 : Addr) (x2 : Int32) (x3 : Int32) : Array Slot := #[.val (.ref x0), .val (.ref x1), .val (.int x2), .val (.int x3), .val .null, .unset]
abbrev la5 (x0 : Addr) : Array Slot := #[.val (.ref x0), .unset, .unset, .unset, .unset]
abbrev la6 (x0 : Addr) (x1 : Addr) : Array Slot := #[.val (.ref x0), .val (.ref x1), .unset, .unset, .unset]
abbrev la7 (x0 : Addr) (x1 : Addr) (x2 : Int32) : Array Slot := #[.val (.ref x0), .val (.ref x1), .val (.int x2), .unset, .unset]
abbrev la8 (x0 : Addr) (x1 : Addr) (x2 : Int32) (x3 : Int32) : Array Slot := #[.val (.ref x0), .val (.ref x1), .val (.int x2), .val (.int x3), .unset]
abbrev la9 (x0 : Addr) (x1 : Addr) (x2 : Int32) (x3 : Int32) (x4 : Addr) : Array Slot := #[.val (.ref x0), .val (.ref x1), .val (.int x2), .val (.int x3), .val (.ref x4)]
abbrev la10 (x0 : Int32) (x1 : Int32) (x2 : Int32) (x3 : Int32) (x4 : Int32) (x5 : Int32) : Array Slot := #[.val (.int x0), .val (.int x1), .val (.int x2), .val (.int x3), .val (.int x4), .val (.int x5), .unset, .unset, .unset, .unset, .unset, .unset, .unset, .unset]
abbrev la11 (x0 : Int32) (x1 : Int32) (x2 : Int32) (x3 : Int32) (x4 : Int32) (x5 : Int32) (x6 : Int32) : Array Slot := #[.val (.int x0), .val (.int x1), .val (.int x2), .val (.int x3), .val (.int x4), .val (.int x5), .val (.int x6), .unset, .unset, .unset, .unset, .unset, .unset, .unset]
abbrev la12 (x0 : Int32) (x1 : Int32) (x2 : Int32) (x3 : Int32) (x4 : Int32) (x5 : Int32) (x6 : Int32) (x7 : Int32) : Array Slot := #[.val (.int x0), .val (.int x1), .val (.int x2), .val (.int x3), .val (.int x4), .val (.int x5), .val (.int x6), .val (.int x7), .unset, .unset, .unset, .unset, .unset, .unset]
abbrev la13 (x0 : Int32) (x1 : Int32) (x2 : Int32) (x3 : Int32) (x4 : Int32) (x5 : Int32) (x6 : Int32) (x7 : Int32) (x8 : Addr) : Array Slot := #[.val (.int x0), .val (.int x1), .val (.int x2), .val (.int x3), .val (.int x4), .val (.int x5), .val (.int x6), .val (.int x7), .val (.ref x8), .unset, .unset, .unset, .unset, .unset]
abbrev la14 (x0 : Int32) (x1 : Int32) (x2 : Int32) (x3 : Int32) (x4 : Int32) (x5 : Int32) (x6 : Int32) (x7 : Int32) (x8 : Addr) (x9 : Int32) : Array Slot := #[.val (.int x0), .val (.int x1), .val (.int x2), .val (.int x3), .val (.int x4), .val (.int x5), .val (.int x6), .val (.int x7), .val (.ref x8), .val (.int x9), .unset, .unset, .unset, .unset]
abbrev la15 (x0 : Int32) (x1 : Int32) (x2 : Int32) (x3 : Int32) (x4 : Int32) (x5 : Int32) (x6 : Int32) (x7 : Int32) (x8 : Addr) (x9 : Int32) (x10 : Int32) : Array Slot := #[.val (.int x0), .val (.int x1), .val (.int x2), .val (.int x3), .val (.int x4), .val (.int x5), .val (.int x6), .val (.int x7), .val (.ref x8), .val (.int x9), .val (.int x10), .unset, .unset, .unset]
abbrev la16 (x0 : Int32) (x1 : Int32) (x2 : Int32) (x3 : Int32) (x4 : Int32) (x5 : Int32) (x6 : Int32) (x7 : Int32) (x8 : Addr) (x9 : Int32) (x10 : Int32) (x11 : Int32) : Array Slot := #[.val (.int x0), .val (.int x1), .val (.int x2), .val (.int x3), .val (.int x4), .val (.int x5), .val (.int x6), .val (.int x7), .val (.ref x8), .val (.int x9), .val (.int x10), .val (.int x11), .unset, .unset]
abbrev la17 (x0 : Int32) (x1 : Int32) (x2 : Int32) (x3 : Int32) (x4 : Int32) (x5 : Int32) (x6 : Int32) (x7 : Int32) (x8 : Addr) (x9 : Int32) (x10 : Int32) (x11 : Int32) (x12 : Addr) : Array Slot := #[.val (.int x0), .val (.int x1), .val (.int x2), .val (.int x3), .val (.int x4), .val (.int x5), .val (.int x6), .val (.int x7), .val (.ref x8), .val (.int x9), .val (.int x10), .val (.int x11), .val (.ref x12), .unset]
abbrev la18 (x0 : Int32) (x1 : Int32) (x2 : Int32) (x3 : Int32) (x4 : Int32) (x5 : Int32) (x6 : Int32) (x7 : Int32) (x8 : Addr) (x9 : Int32) (x10 : Int32) (x11 : Int32) (x12 : Addr) (x13 : Addr) : Array Slot := #[.val (.int x0), .val (.int x1), .val (.int x2), .val (.int x3), .val (.int x4), .val (.int x5), .val (.int x6), .val (.int x7), .val (.ref x8), .val (.int x9), .val (.int x10), .val (.int x11), .val (.ref x12), .val (.ref x13)]
theorem pd_0 : parseMethodDescriptor "(IIII)C" = some ⟨[.int, .int, .int, .int], some .char⟩ := by decide +kernel
theorem pd_1 : parseMethodDescriptor "()I" = some ⟨[], some .int⟩ := by decide +kernel
theorem pd_2 : parseMethodDescriptor "(I)C" = some ⟨[.int], some .char⟩ := by decide +kernel
theorem pd_3 : parseMethodDescriptor "([CIILjava/lang/Void;)V" = some ⟨[(.array .char), .int, .int, (.object "java/lang/Void")], none⟩ := by decide +kernel
theorem pd_4 : parseMethodDescriptor "()[Lcom/example/rolegrant/rolegrant/policy/Kind;" = some ⟨[], some (.array (.object "com/example/rolegrant/rolegrant/policy/Kind"))⟩ := by decide +kernel
theorem pd_5 : parseMethodDescriptor "(Ljava/lang/Object;)Z" = some ⟨[(.object "java/lang/Object")], some .boolean⟩ := by decide +kernel
theorem pd_6 : parseMethodDescriptor "(I)Ljava/lang/String;" = some ⟨[.int], some (.object "java/lang/String")⟩ := by decide +kernel
theorem pd_7 : parseMethodDescriptor "([C)V" = some ⟨[(.array .char)], none⟩ := by decide +kernel
theorem pd_8 : parseMethodDescriptor "(Ljava/lang/String;)Lcom/example/rolegrant/rolegrant/policy/Kind;" = some ⟨[(.object "java/lang/String")], some (.object "com/example/rolegrant/rolegrant/policy/Kind")⟩ := by decide +kernel
theorem pd_9 : parseMethodDescriptor "(ILjava/lang/String;ZICIII)C" = some ⟨[.int, (.object "java/lang/String"), .boolean, .int, .char, .int, .int, .int], some .char⟩ := by decide +kernel
theorem pn_0 : plainName "com/example/rolegrant/rolegrant/policy/KindNamedPinLaw" = true := by first | (simp [plainName, overriddenIn]; done) | decide +kernel
theorem pn_1 : plainName "java/lang/String" = true := by first | (simp [plainName, overriddenIn]; done) | decide +kernel
theorem pn_2 : plainName "com/example/rolegrant/rolegrant/policy/Kind" = true := by first | (simp [plainName, overriddenIn]; done) | decide +kernel
theorem d3_0 : decode method_5_code 0 = .ok (.iload_n 0, 1) := by decide +kernel
theorem d3_1 : decode method_5_code 1 = .ok (.iconst 4, 1) := by decide +kernel
theorem d3_2 : decode method_5_code 2 = .ok (.if_icmp .ge 7, 3) := by decide +kernel
theorem d3_5 : decode method_5_code 5 = .ok (.iload_n 1, 1) := by decide +kernel
theorem d3_6 : decode method_5_code 6 = .ok (.goto 14, 3) := by decide +kernel
theorem d3_20 : decode method_5_code 20 = .ok (.istore 4, 2) := by decide +kernel
theorem d3_22 : decode method_5_code 22 = .ok (.iload_n 0, 1) := by decide +kernel
theorem d3_23 : decode method_5_code 23 = .ok (.iconst 3, 1) := by decide +kernel
theorem d3_24 : decode method_5_code 24 = .ok (.iand, 1) := by decide +kernel
theorem d3_25 : decode method_5_code 25 = .ok (.bipush 8, 2) := by decide +kernel
theorem d3_27 : decode method_5_code 27 = .ok (.imul, 1) := by decide +kernel
theorem d3_28 : decode method_5_code 28 = .ok (.istore 5, 2) := by decide +kernel
theorem d3_30 : decode method_5_code 30 = .ok (.iload 4, 2) := by decide +kernel
theorem d3_32 : decode method_5_code 32 = .ok (.iload 5, 2) := by decide +kernel
theorem d3_34 : decode method_5_code 34 = .ok (.iushr, 1) := by decide +kernel
theorem d3_35 : decode method_5_code 35 = .ok (.sipush 255, 3) := by decide +kernel
theorem d3_38 : decode method_5_code 38 = .ok (.iand, 1) := by decide +kernel
theorem d3_39 : decode method_5_code 39 = .ok (.i2c, 1) := by decide +kernel
theorem d3_40 : decode method_5_code 40 = .ok (.ireturn, 1) := by decide +kernel
theorem d3_9 : decode method_5_code 9 = .ok (.iload_n 0, 1) := by decide +kernel
theorem d3_10 : decode method_5_code 10 = .ok (.bipush 8, 2) := by decide +kernel
theorem d3_12 : decode method_5_code 12 = .ok (.if_icmp .ge 7, 3) := by decide +kernel
theorem d3_15 : decode method_5_code 15 = .ok (.iload_n 2, 1) := by decide +kernel
theorem d3_16 : decode method_5_code 16 = .ok (.goto 4, 3) := by decide +kernel
theorem d3_19 : decode method_5_code 19 = .ok (.iload_n 3, 1) := by decide +kernel
theorem d2_0 : decode method_6_code 0 = .ok (.iload_n 0, 1) := by decide +kernel
theorem d2_1 : decode method_6_code 1 = .ok (.iload_n 3, 1) := by decide +kernel
theorem d2_2 : decode method_6_code 2 = .ok (.if_icmp .ne 6, 3) := by decide +kernel
theorem d2_5 : decode method_6_code 5 = .ok (.iload 4, 2) := by decide +kernel
theorem d2_7 : decode method_6_code 7 = .ok (.ireturn, 1) := by decide +kernel
theorem d2_8 : decode method_6_code 8 = .ok (.iload_n 2, 1) := by decide +kernel
theorem d2_9 : decode method_6_code 9 = .ok (.ifCond .eq 17, 3) := by decide +kernel
theorem d2_26 : decode method_6_code 26 = .ok (.iload_n 0, 1) := by decide +kernel
theorem d2_27 : decode method_6_code 27 = .ok (.iload 5, 2) := by decide +kernel
theorem d2_29 : decode method_6_code 29 = .ok (.iload 6, 2) := by decide +kernel
theorem d2_31 : decode method_6_code 31 = .ok (.iload 7, 2) := by decide +kernel
theorem d2_33 : decode method_6_code 33 = .ok (.invokestatic 65, 3) := by decide +kernel
theorem d2_36 : decode method_6_code 36 = .ok (.ireturn, 1) := by decide +kernel
theorem d2_12 : decode method_6_code 12 = .ok (.iload_n 0, 1) := by decide +kernel
theorem d2_13 : decode method_6_code 13 = .ok (.aload_n 1, 1) := by decide +kernel
theorem d2_14 : decode method_6_code 14 = .ok (.invokevirtual 13, 3) := by decide +kernel
theorem d2_17 : decode method_6_code 17 = .ok (.if_icmp .ge 9, 3) := by decide +kernel
theorem d2_20 : decode method_6_code 20 = .ok (.aload_n 1, 1) := by decide +kernel
theorem d2_21 : decode method_6_code 21 = .ok (.iload_n 0, 1) := by decide +kernel
theorem d2_22 : decode method_6_code 22 = .ok (.invokevirtual 61, 3) := by decide +kernel
theorem d2_25 : decode method_6_code 25 = .ok (.ireturn, 1) := by decide +kernel
theorem d1_0 : decode method_3_code 0 = .ok (.iload_n 0, 1) := by decide +kernel
theorem d1_1 : decode method_3_code 1 = .ok (.ifCond .ne 6, 3) := by decide +kernel
theorem d1_4 : decode method_3_code 4 = .ok (.ldc 36, 2) := by decide +kernel
theorem d1_6 : decode method_3_code 6 = .ok (.areturn, 1) := by decide +kernel
theorem d1_7 : decode method_3_code 7 = .ok (.iload_n 0, 1) := by decide +kernel
theorem d1_8 : decode method_3_code 8 = .ok (.iconst 1, 1) := by decide +kernel
theorem d1_9 : decode method_3_code 9 = .ok (.if_icmp .ne 6, 3) := by decide +kernel
theorem d1_12 : decode method_3_code 12 = .ok (.ldc 38, 2) := by decide +kernel
theorem d1_14 : decode method_3_code 14 = .ok (.areturn, 1) := by decide +kernel
theorem d1_15 : decode method_3_code 15 = .ok (.iload_n 0, 1) := by decide +kernel
theorem d1_16 : decode method_3_code 16 = .ok (.iconst 2, 1) := by decide +kernel
theorem d1_17 : decode method_3_code 17 = .ok (.if_icmp .ne 6, 3) := by decide +kernel
theorem d1_20 : decode method_3_code 20 = .ok (.ldc 40, 2) := by decide +kernel
theorem d1_22 : decode method_3_code 22 = .ok (.areturn, 1) := by decide +kernel
theorem d1_23 : decode method_3_code 23 = .ok (.ldc 42, 2) := by decide +kernel
theorem d1_25 : decode method_3_code 25 = .ok (.areturn, 1) := by decide +kernel
theorem d5_0 : decode jdk_42_method_149_code 0 = .ok (.aload_n 0, 1) := by decide +kernel
theorem d5_1 : decode jdk_42_method_149_code 1 = .ok (.invokespecial 1, 3) := by decide +kernel
theorem d5_4 : decode jdk_42_method_149_code 4 = .ok (.iload_n 3, 1) := by decide +kernel
theorem d5_5 : decode jdk_42_method_149_code 5 = .ok (.ifCond .ne 22, 3) := by decide +kernel
theorem d5_8 : decode jdk_42_method_149_code 8 = .ok (.aload_n 0, 1) := by decide +kernel
theorem d5_9 : decode jdk_42_method_149_code 9 = .ok (.ldc 7, 2) := by decide +kernel
theorem d5_11 : decode jdk_42_method_149_code 11 = .ok (.getfield 9, 3) := by decide +kernel
theorem d5_14 : decode jdk_42_method_149_code 14 = .ok (.putfield 9, 3) := by decide +kernel
theorem d5_17 : decode jdk_42_method_149_code 17 = .ok (.aload_n 0, 1) := by decide +kernel
theorem d5_18 : decode jdk_42_method_149_code 18 = .ok (.ldc 7, 2) := by decide +kernel
theorem d5_20 : decode jdk_42_method_149_code 20 = .ok (.getfield 15, 3) := by decide +kernel
theorem d5_23 : decode jdk_42_method_149_code 23 = .ok (.putfield 15, 3) := by decide +kernel
theorem d5_26 : decode jdk_42_method_149_code 26 = .ok (.return_, 1) := by decide +kernel
theorem d4_0 : decode jdk_42_method_3_code 0 = .ok (.aload_n 0, 1) := by decide +kernel
theorem d4_1 : decode jdk_42_method_3_code 1 = .ok (.aload_n 1, 1) := by decide +kernel
theorem d4_2 : decode jdk_42_method_3_code 2 = .ok (.iconst 0, 1) := by decide +kernel
theorem d4_3 : decode jdk_42_method_3_code 3 = .ok (.aload_n 1, 1) := by decide +kernel
theorem d4_4 : decode jdk_42_method_3_code 4 = .ok (.arraylength, 1) := by decide +kernel
theorem d4_5 : decode jdk_42_method_3_code 5 = .ok (.aconst_null, 1) := by decide +kernel
theorem d4_6 : decode jdk_42_method_3_code 6 = .ok (.invokespecial 27, 3) := by decide +kernel
theorem d4_9 : decode jdk_42_method_3_code 9 = .ok (.return_, 1) := by decide +kernel
theorem d11_0 : decode prog_58_method_1_code 0 = .ok (.getstatic 16, 3) := by decide +kernel
theorem d11_3 : decode prog_58_method_1_code 3 = .ok (.invokevirtual 20, 3) := by decide +kernel
theorem d11_6 : decode prog_58_method_1_code 6 = .ok (.checkcast 21, 3) := by decide +kernel
theorem d11_9 : decode prog_58_method_1_code 9 = .ok (.areturn, 1) := by decide +kernel
theorem d10_0 : decode prog_58_method_5_code 0 = .ok (.invokestatic 39, 3) := by decide +kernel
theorem d10_3 : decode prog_58_method_5_code 3 = .ok (.astore_n 1, 1) := by decide +kernel
theorem d10_4 : decode prog_58_method_5_code 4 = .ok (.aload_n 1, 1) := by decide +kernel
theorem d10_5 : decode prog_58_method_5_code 5 = .ok (.arraylength, 1) := by decide +kernel
theorem d10_6 : decode prog_58_method_5_code 6 = .ok (.istore_n 2, 1) := by decide +kernel
theorem d10_7 : decode prog_58_method_5_code 7 = .ok (.iconst 0, 1) := by decide +kernel
theorem d10_8 : decode prog_58_method_5_code 8 = .ok (.istore_n 3, 1) := by decide +kernel
theorem d10_9 : decode prog_58_method_5_code 9 = .ok (.iload_n 3, 1) := by decide +kernel
theorem d10_10 : decode prog_58_method_5_code 10 = .ok (.iload_n 2, 1) := by decide +kernel
theorem d10_11 : decode prog_58_method_5_code 11 = .ok (.if_icmp .ge 29, 3) := by decide +kernel
theorem d10_14 : decode prog_58_method_5_code 14 = .ok (.aload_n 1, 1) := by decide +kernel
theorem d10_15 : decode prog_58_method_5_code 15 = .ok (.iload_n 3, 1) := by decide +kernel
theorem d10_16 : decode prog_58_method_5_code 16 = .ok (.aaload, 1) := by decide +kernel
theorem d10_17 : decode prog_58_method_5_code 17 = .ok (.astore 4, 2) := by decide +kernel
theorem d10_19 : decode prog_58_method_5_code 19 = .ok (.aload 4, 2) := by decide +kernel
theorem d10_21 : decode prog_58_method_5_code 21 = .ok (.getfield 35, 3) := by decide +kernel
theorem d10_24 : decode prog_58_method_5_code 24 = .ok (.aload_n 0, 1) := by decide +kernel
theorem d10_25 : decode prog_58_method_5_code 25 = .ok (.invokevirtual 43, 3) := by decide +kernel
theorem d10_28 : decode prog_58_method_5_code 28 = .ok (.ifCond .eq 6, 3) := by decide +kernel
theorem d10_31 : decode prog_58_method_5_code 31 = .ok (.aload 4, 2) := by decide +kernel
theorem d10_33 : decode prog_58_method_5_code 33 = .ok (.areturn, 1) := by decide +kernel
theorem d10_34 : decode prog_58_method_5_code 34 = .ok (.iinc 3 1, 3) := by decide +kernel
theorem d10_37 : decode prog_58_method_5_code 37 = .ok (.goto (-28), 3) := by decide +kernel
theorem d10_40 : decode prog_58_method_5_code 40 = .ok (.aconst_null, 1) := by decide +kernel
theorem d10_41 : decode prog_58_method_5_code 41 = .ok (.areturn, 1) := by decide +kernel
theorem d14_0 : decode method_4_code 0 = .ok (.aload_n 0, 1) := by decide +kernel
theorem d14_1 : decode method_4_code 1 = .ok (.ldc 36, 2) := by decide +kernel
theorem d14_3 : decode method_4_code 3 = .ok (.invokevirtual 44, 3) := by decide +kernel
theorem d14_6 : decode method_4_code 6 = .ok (.ifCond .eq 7, 3) := by decide +kernel
theorem d14_9 : decode method_4_code 9 = .ok (.getstatic 48, 3) := by decide +kernel
theorem d14_12 : decode method_4_code 12 = .ok (.areturn, 1) := by decide +kernel
theorem d14_13 : decode method_4_code 13 = .ok (.aload_n 0, 1) := by decide +kernel
theorem d14_14 : decode method_4_code 14 = .ok (.ldc 38, 2) := by decide +kernel
theorem d14_16 : decode method_4_code 16 = .ok (.invokevirtual 44, 3) := by decide +kernel
theorem d14_19 : decode method_4_code 19 = .ok (.ifCond .eq 7, 3) := by decide +kernel
theorem d14_22 : decode method_4_code 22 = .ok (.getstatic 52, 3) := by decide +kernel
theorem d14_25 : decode method_4_code 25 = .ok (.areturn, 1) := by decide +kernel
theorem d14_26 : decode method_4_code 26 = .ok (.aload_n 0, 1) := by decide +kernel
theorem d14_27 : decode method_4_code 27 = .ok (.ldc 40, 2) := by decide +kernel
theorem d14_29 : decode method_4_code 29 = .ok (.invokevirtual 44, 3) := by decide +kernel
theorem d14_32 : decode method_4_code 32 = .ok (.ifCond .eq 7, 3) := by decide +kernel
theorem d14_35 : decode method_4_code 35 = .ok (.getstatic 55, 3) := by decide +kernel
theorem d14_38 : decode method_4_code 38 = .ok (.areturn, 1) := by decide +kernel
theorem d14_39 : decode method_4_code 39 = .ok (.aload_n 0, 1) := by decide +kernel
theorem d14_40 : decode method_4_code 40 = .ok (.ldc 42, 2) := by decide +kernel
theorem d14_42 : decode method_4_code 42 = .ok (.invokevirtual 44, 3) := by decide +kernel
theorem d14_45 : decode method_4_code 45 = .ok (.ifCond .eq 7, 3) := by decide +kernel
theorem d14_48 : decode method_4_code 48 = .ok (.getstatic 58, 3) := by decide +kernel
theorem d14_51 : decode method_4_code 51 = .ok (.areturn, 1) := by decide +kernel
theorem d14_52 : decode method_4_code 52 = .ok (.aconst_null, 1) := by decide +kernel
theorem d14_53 : decode method_4_code 53 = .ok (.areturn, 1) := by decide +kernel
abbrev kS0 : String := "java/lang/String"
abbrev kS1 : String := "com/example/rolegrant/rolegrant/policy/KindNamedPinLaw"
abbrev kS2 : String := "(Ljava/lang/String;)Lcom/example/rolegrant/rolegrant/policy/Kind;"
abbrev kS3 : String := "(ILjava/lang/String;ZICIII)C"
def Qrm_dr (Z : State) (p0 : Int32) (p1 : Int32) (p2 : Int32) (p3 : Int32) (h0 : Heap) (n0 : Nat) (v : Option Value) (h : Heap) (L : List Loc) : Prop := ∃ cv : Int32, v = some (.int cv) ∧ Fr n0 L ∧ h = h0 ∧ (¬ cv < 0 ∧ ¬ (255 : Int32) < cv) ∧ nar .char cv = cv
theorem ef_rm_dr (m : MethodId) (x0 : Int32) (x1 : Int32) (x2 : Int32) (x3 : Int32) : entryFrame m #[(.int x0), (.int x1), (.int x2), (.int x3)] 6 = mkF m 0 (la0 x0 x1 x2 x3) [] := by first | rfl | (simp [entryFrame, mkF, argsToLocals, Value.category]; done)
theorem rm_dr (l : Launch) (Z : State) (a0 : Array Value) (hw : HW Z a0) (ws : List Jvm.Cond) (p0 : Int32) (p1 : Int32) (p2 : Int32) (p3 : Int32) (h0 : Heap) (n0 : Nat) (Z0 : n0 ≤ h0.size) :
  OwnM l Z h0 (⟨kS1, "drawn", "(IIII)C"⟩ : MethodName) (Jvm.Cond.code (⟨kS1, "drawn", "(IIII)C"⟩ : MethodName) method_5_code 6 (some .char) :: ws) (RM 0 0 0 0) #[(.int p0), (.int p1), (.int p2), (.int p3)] (Qrm_dr Z p0 p1 p2 p3 h0 n0) := by
 refine MetFree.of_bodySF (plainFor_of_name pn_0) hisR ?_
 intro p e s m args below meth c s₁ Bd hml0 hP hK
 obtain ⟨rfl, hZ, hh⟩ := hP
 have hx := Bd.exec
 have hby := Bd.bytes
 have hml : c.maxLocals = 6 := hml0
 have hown : s.vm.findClass kS1 = some m.cls := findClass_of_methodNamed Bd.named
 have hnm := (name_of_methodNamed Bd.named Bd.method).1
 have X0 : Stand p l e (RM 0 0 0 0) s m #[(.int p0), (.int p1), (.int p2), (.int p3)] below meth c s₁ [] 0 0 := Stand.of_body Bd
 have e0 : s₁.heap = h0 := by rw [← hh, Bd.state]; rfl
 have N0 := Fr.nil n0
 have pre0 : ∀ t, GO p e below s₁ (mkF m 0 (la0 p0 p1 p2 p3) []) t → GO p e below s₁ (entryFrame m #[(.int p0), (.int p1), (.int p2), (.int p3)] 6) t := fun t k => castTop (ef_rm_dr m p0 p1 p2 p3) k
 have pre1 : ∀ t, GO p e below s₁ (mkF m 2 (la0 p0 p1 p2 p3) [(.int 4), (.int p0)]) t → GO p e below s₁ (entryFrame m #[(.int p0), (.int p1), (.int p2), (.int p3)] 6) t := by
  intro t kt
  refine pre0 t ?_
  show GO p e below s₁ (mkF m 0 (la0 p0 p1 p2 p3) []) _
  refine XS.iloadN X0.here hx rfl (hb hby d3_0) rfl ?_
  show GO p e below s₁ (mkF m 1 (la0 p0 p1 p2 p3) [(.int p0)]) _
  refine XS.iconst X0.here hx rfl (hb hby d3_1) ?_
  exact kt
 by_cases hb2 : p0 < (4 : Int32)
 ·obtain ⟨fs, hr, hrun, hended, hW, hsame⟩ := X0.leave (v := some (.int (nar .char ((((p1.toUInt32 >>> (((p0 &&& (3 : Int32)) * (8 : Int32)) &&& 31).toUInt32).toInt32) &&& (255 : Int32)).toUInt32.toUInt16.toUInt32.toInt32)))) (fun h => by rw [Bd.returns] at h; cases h)
  refine ⟨_, _, pre1 _ ?_, hrun, hended, _, _, rfl, ?_, ⟨_, rfl⟩, hW, hsame.mono (by decide) (by decide)⟩
  ·show GO p e below s₁ (mkF m 2 (la0 p0 p1 p2 p3) [(.int 4), (.int p0)]) _
   refine XS.icmpNo X0.here hx rfl (hb hby d3_2) rfl (tlt (hb2 : p0 < (4 : Int32))).2.1 ?_
   show GO p e below s₁ (mkF m 5 (la0 p0 p1 p2 p3) []) _
   refine XS.iloadN X0.here hx rfl (hb hby d3_5) rfl ?_
   show GO p e below s₁ (mkF m 6 (la0 p0 p1 p2 p3) [(.int p1)]) _
   refine XS.goto X0.here hx rfl (pc0 := 6) (pc' := 20) rfl (hb hby d3_6) (by decide) (by decide) ?_
   show GO p e below s₁ (mkF m 20 (la0 p0 p1 p2 p3) [(.int p1)]) _
   refine XS.istore X0.here hx rfl (hb hby d3_20) rfl (l' := (la1 p0 p1 p2 p3 p1)) rfl ?_
   show GO p e below s₁ (mkF m 22 (la1 p0 p1 p2 p3 p1) []) _
   refine XS.iloadN X0.here hx rfl (hb hby d3_22) rfl ?_
   show GO p e below s₁ (mkF m 23 (la1 p0 p1 p2 p3 p1) [(.int p0)]) _
   refine XS.iconst X0.here hx rfl (hb hby d3_23) ?_
   show GO p e below s₁ (mkF m 24 (la1 p0 p1 p2 p3 p1) [(.int 3), (.int p0)]) _
   refine XS.iand X0.here hx rfl (hb hby d3_24) rfl ?_
   show GO p e below s₁ (mkF m 25 (la1 p0 p1 p2 p3 p1) [(.int (p0 &&& (3 : Int32)))]) _
   refine XS.bipush X0.here hx rfl (hb hby d3_25) ?_
   show GO p e below s₁ (mkF m 27 (la1 p0 p1 p2 p3 p1) [(.int 8), (.int (p0 &&& (3 : Int32)))]) _
   refine XS.imul X0.here hx rfl (hb hby d3_27) rfl ?_
   show GO p e below s₁ (mkF m 28 (la1 p0 p1 p2 p3 p1) [(.int ((p0 &&& (3 : Int32)) * (8 : Int32)))]) _
   refine XS.istore X0.here hx rfl (hb hby d3_28) rfl (l' := (la2 p0 p1 p2 p3 p1 ((p0 &&& (3 : Int32)) * (8 : Int32)))) rfl ?_
   show GO p e below s₁ (mkF m 30 (la2 p0 p1 p2 p3 p1 ((p0 &&& (3 : Int32)) * (8 : Int32))) []) _
   refine XS.iload X0.here hx rfl (hb hby d3_30) rfl ?_
   show GO p e below s₁ (mkF m 32 (la2 p0 p1 p2 p3 p1 ((p0 &&& (3 : Int32)) * (8 : Int32))) [(.int p1)]) _
   refine XS.iload X0.here hx rfl (hb hby d3_32) rfl ?_
   show GO p e below s₁ (mkF m 34 (la2 p0 p1 p2 p3 p1 ((p0 &&& (3 : Int32)) * (8 : Int32))) [(.int ((p0 &&& (3 : Int32)) * (8 : Int32))), (.int p1)]) _
   refine XS.iushr X0.here hx rfl (hb hby d3_34) rfl ?_
   show GO p e below s₁ (mkF m 35 (la2 p0 p1 p2 p3 p1 ((p0 &&& (3 : Int32)) * (8 : Int32))) [(.int ((p1.toUInt32 >>> (((p0 &&& (3 : Int32)) * (8 : Int32)) &&& 31).toUInt32).toInt32))]) _
   refine XS.sipush X0.here hx rfl (hb hby d3_35) ?_
   show GO p e below s₁ (mkF m 38 (la2 p0 p1 p2 p3 p1 ((p0 &&& (3 : Int32)) * (8 : Int32))) [(.int 255), (.int ((p1.toUInt32 >>> (((p0 &&& (3 : Int32)) * (8 : Int32)) &&& 31).toUInt32).toInt32))]) _
   refine XS.iand X0.here hx rfl (hb hby d3_38) rfl ?_
   show GO p e below s₁ (mkF m 39 (la2 p0 p1 p2 p3 p1 ((p0 &&& (3 : Int32)) * (8 : Int32))) [(.int (((p1.toUInt32 >>> (((p0 &&& (3 : Int32)) * (8 : Int32)) &&& 31).toUInt32).toInt32) &&& (255 : Int32)))]) _
   refine XS.i2c X0.here hx rfl (hb hby d3_39) rfl ?_
   show GO p e below s₁ (mkF m 40 (la2 p0 p1 p2 p3 p1 ((p0 &&& (3 : Int32)) * (8 : Int32))) [(.int ((((p1.toUInt32 >>> (((p0 &&& (3 : Int32)) * (8 : Int32)) &&& 31).toUInt32).toInt32) &&& (255 : Int32)).toUInt32.toUInt16.toUInt32.toInt32))]) _
   exact retN X0 hx (t := .char) Bd.returns (by simp) (hb hby d3_40) hr
  ·show Qrm_dr Z p0 p1 p2 p3 h0 n0 _ s₁.heap _
   rw [e0]
   exact ⟨(nar .char ((((p1.toUInt32 >>> (((p0 &&& (3 : Int32)) * (8 : Int32)) &&& 31).toUInt32).toInt32) &&& (255 : Int32)).toUInt32.toUInt16.toUInt32.toInt32)), rfl, N0, rfl, (own_nch _).1, (own_nch _).2⟩
 ·have pre3 : ∀ t, GO p e below s₁ (mkF m 12 (la0 p0 p1 p2 p3) [(.int 8), (.int p0)]) t → GO p e below s₁ (entryFrame m #[(.int p0), (.int p1), (.int p2), (.int p3)] 6) t := by
   intro t kt
   refine pre1 t ?_
   show GO p e below s₁ (mkF m 2 (la0 p0 p1 p2 p3) [(.int 4), (.int p0)]) _
   refine XS.icmpYes X0.here hx rfl (pc0 := 2) (pc' := 9) rfl (hb hby d3_2) rfl (flt (hb2 : ¬ (p0 < (4 : Int32)))).2.1 (by decide) (by decide) ?_
   show GO p e below s₁ (mkF m 9 (la0 p0 p1 p2 p3) []) _
   refine XS.iloadN X0.here hx rfl (hb hby d3_9) rfl ?_
   show GO p e below s₁ (mkF m 10 (la0 p0 p1 p2 p3) [(.int p0)]) _
   refine XS.bipush X0.here hx rfl (hb hby d3_10) ?_
   exact kt
  by_cases hb4 : p0 < (8 : Int32)
  ·obtain ⟨fs, hr, hrun, hended, hW, hsame⟩ := X0.leave (v := some (.int (nar .char ((((p2.toUInt32 >>> (((p0 &&& (3 : Int32)) * (8 : Int32)) &&& 31).toUInt32).toInt32) &&& (255 : Int32)).toUInt32.toUInt16.toUInt32.toInt32)))) (fun h => by rw [Bd.returns] at h; cases h)
   refine ⟨_, _, pre3 _ ?_, hrun, hended, _, _, rfl, ?_, ⟨_, rfl⟩, hW, hsame.mono (by decide) (by decide)⟩
   ·show GO p e below s₁ (mkF m 12 (la0 p0 p1 p2 p3) [(.int 8), (.int p0)]) _
    refine XS.icmpNo X0.here hx rfl (hb hby d3_12) rfl (tlt (hb4 : p0 < (8 : Int32))).2.1 ?_
    show GO p e below s₁ (mkF m 15 (la0 p0 p1 p2 p3) []) _
    refine XS.iloadN X0.here hx rfl (hb hby d3_15) rfl ?_
    show GO p e below s₁ (mkF m 16 (la0 p0 p1 p2 p3) [(.int p2)]) _
    refine XS.goto X0.here hx rfl (pc0 := 16) (pc' := 20) rfl (hb hby d3_16) (by decide) (by decide) ?_
    show GO p e below s₁ (mkF m 20 (la0 p0 p1 p2 p3) [(.int p2)]) _
    refine XS.istore X0.here hx rfl (hb hby d3_20) rfl (l' := (la1 p0 p1 p2 p3 p2)) rfl ?_
    show GO p e below s₁ (mkF m 22 (la1 p0 p1 p2 p3 p2) []) _
    refine XS.iloadN X0.here hx rfl (hb hby d3_22) rfl ?_
    show GO p e below s₁ (mkF m 23 (la1 p0 p1 p2 p3 p2) [(.int p0)]) _
    refine XS.iconst X0.here hx rfl (hb hby d3_23) ?_
    show GO p e below s₁ (mkF m 24 (la1 p0 p1 p2 p3 p2) [(.int 3), (.int p0)]) _
    refine XS.iand X0.here hx rfl (hb hby d3_24) rfl ?_
    show GO p e below s₁ (mkF m 25 (la1 p0 p1 p2 p3 p2) [(.int (p0 &&& (3 : Int32)))]) _
    refine XS.bipush X0.here hx rfl (hb hby d3_25) ?_
    show GO p e below s₁ (mkF m 27 (la1 p0 p1 p2 p3 p2) [(.int 8), (.int (p0 &&& (3 : Int32)))]) _
    refine XS.imul X0.here hx rfl (hb hby d3_27) rfl ?_
    show GO p e below s₁ (mkF m 28 (la1 p0 p1 p2 p3 p2) [(.int ((p0 &&& (3 : Int32)) * (8 : Int32)))]) _
    refine XS.istore X0.here hx rfl (hb hby d3_28) rfl (l' := (la2 p0 p1 p2 p3 p2 ((p0 &&& (3 : Int32)) * (8 : Int32)))) rfl ?_
    show GO p e below s₁ (mkF m 30 (la2 p0 p1 p2 p3 p2 ((p0 &&& (3 : Int32)) * (8 : Int32))) []) _
    refine XS.iload X0.here hx rfl (hb hby d3_30) rfl ?_
    show GO p e below s₁ (mkF m 32 (la2 p0 p1 p2 p3 p2 ((p0 &&& (3 : Int32)) * (8 : Int32))) [(.int p2)]) _
    refine XS.iload X0.here hx rfl (hb hby d3_32) rfl ?_
    show GO p e below s₁ (mkF m 34 (la2 p0 p1 p2 p3 p2 ((p0 &&& (3 : Int32)) * (8 : Int32))) [(.int ((p0 &&& (3 : Int32)) * (8 : Int32))), (.int p2)]) _
    refine XS.iushr X0.here hx rfl (hb hby d3_34) rfl ?_
    show GO p e below s₁ (mkF m 35 (la2 p0 p1 p2 p3 p2 ((p0 &&& (3 : Int32)) * (8 : Int32))) [(.int ((p2.toUInt32 >>> (((p0 &&& (3 : Int32)) * (8 : Int32)) &&& 31).toUInt32).toInt32))]) _
    refine XS.sipush X0.here hx rfl (hb hby d3_35) ?_
    show GO p e below s₁ (mkF m 38 (la2 p0 p1 p2 p3 p2 ((p0 &&& (3 : Int32)) * (8 : Int32))) [(.int 255), (.int ((p2.toUInt32 >>> (((p0 &&& (3 : Int32)) * (8 : Int32)) &&& 31).toUInt32).toInt32))]) _
    refine XS.iand X0.here hx rfl (hb hby d3_38) rfl ?_
    show GO p e below s₁ (mkF m 39 (la2 p0 p1 p2 p3 p2 ((p0 &&& (3 : Int32)) * (8 : Int32))) [(.int (((p2.toUInt32 >>> (((p0 &&& (3 : Int32)) * (8 : Int32)) &&& 31).toUInt32).toInt32) &&& (255 : Int32)))]) _
    refine XS.i2c X0.here hx rfl (hb hby d3_39) rfl ?_
    show GO p e below s₁ (mkF m 40 (la2 p0 p1 p2 p3 p2 ((p0 &&& (3 : Int32)) * (8 : Int32))) [(.int ((((p2.toUInt32 >>> (((p0 &&& (3 : Int32)) * (8 : Int32)) &&& 31).toUInt32).toInt32) &&& (255 : Int32)).toUInt32.toUInt16.toUInt32.toInt32))]) _
    exact retN X0 hx (t := .char) Bd.returns (by simp) (hb hby d3_40) hr
   ·show Qrm_dr Z p0 p1 p2 p3 h0 n0 _ s₁.heap _
    rw [e0]
    exact ⟨(nar .char ((((p2.toUInt32 >>> (((p0 &&& (3 : Int32)) * (8 : Int32)) &&& 31).toUInt32).toInt32) &&& (255 : Int32)).toUInt32.toUInt16.toUInt32.toInt32)), rfl, N0, rfl, (own_nch _).1, (own_nch _).2⟩
  ·obtain ⟨fs, hr, hrun, hended, hW, hsame⟩ := X0.leave (v := some (.int (nar .char ((((p3.toUInt32 >>> (((p0 &&& (3 : Int32)) * (8 : Int32)) &&& 31).toUInt32).toInt32) &&& (255 : Int32)).toUInt32.toUInt16.toUInt32.toInt32)))) (fun h => by rw [Bd.returns] at h; cases h)
   refine ⟨_, _, pre3 _ ?_, hrun, hended, _, _, rfl, ?_, ⟨_, rfl⟩, hW, hsame.mono (by decide) (by decide)⟩
   ·show GO p e below s₁ (mkF m 12 (la0 p0 p1 p2 p3) [(.int 8), (.int p0)]) _
    refine XS.icmpYes X0.here hx rfl (pc0 := 12) (pc' := 19) rfl (hb hby d3_12) rfl (flt (hb4 : ¬ (p0 < (8 : Int32)))).2.1 (by decide) (by decide) ?_
    show GO p e below s₁ (mkF m 19 (la0 p0 p1 p2 p3) []) _
    refine XS.iloadN X0.here hx rfl (hb hby d3_19) rfl ?_
    show GO p e below s₁ (mkF m 20 (la0 p0 p1 p2 p3) [(.int p3)]) _
    refine XS.istore X0.here hx rfl (hb hby d3_20) rfl (l' := (la1 p0 p1 p2 p3 p3)) rfl ?_
    show GO p e below s₁ (mkF m 22 (la1 p0 p1 p2 p3 p3) []) _
    refine XS.iloadN X0.here hx rfl (hb hby d3_22) rfl ?_
    show GO p e below s₁ (mkF m 23 (la1 p0 p1 p2 p3 p3) [(.int p0)]) _
    refine XS.iconst X0.here hx rfl (hb hby d3_23) ?_
    show GO p e below s₁ (mkF m 24 (la1 p0 p1 p2 p3 p3) [(.int 3), (.int p0)]) _
    refine XS.iand X0.here hx rfl (hb hby d3_24) rfl ?_
    show GO p e below s₁ (mkF m 25 (la1 p0 p1 p2 p3 p3) [(.int (p0 &&& (3 : Int32)))]) _
    refine XS.bipush X0.here hx rfl (hb hby d3_25) ?_
    show GO p e below s₁ (mkF m 27 (la1 p0 p1 p2 p3 p3) [(.int 8), (.int (p0 &&& (3 : Int32)))]) _
    refine XS.imul X0.here hx rfl (hb hby d3_27) rfl ?_
    show GO p e below s₁ (mkF m 28 (la1 p0 p1 p2 p3 p3) [(.int ((p0 &&& (3 : Int32)) * (8 : Int32)))]) _
    refine XS.istore X0.here hx rfl (hb hby d3_28) rfl (l' := (la2 p0 p1 p2 p3 p3 ((p0 &&& (3 : Int32)) * (8 : Int32)))) rfl ?_
    show GO p e below s₁ (mkF m 30 (la2 p0 p1 p2 p3 p3 ((p0 &&& (3 : Int32)) * (8 : Int32))) []) _
    refine XS.iload X0.here hx rfl (hb hby d3_30) rfl ?_
    show GO p e below s₁ (mkF m 32 (la2 p0 p1 p2 p3 p3 ((p0 &&& (3 : Int32)) * (8 : Int32))) [(.int p3)]) _
    refine XS.iload X0.here hx rfl (hb hby d3_32) rfl ?_
    show GO p e below s₁ (mkF m 34 (la2 p0 p1 p2 p3 p3 ((p0 &&& (3 : Int32)) * (8 : Int32))) [(.int ((p0 &&& (3 : Int32)) * (8 : Int32))), (.int p3)]) _
    refine XS.iushr X0.here hx rfl (hb hby d3_34) rfl ?_
    show GO p e below s₁ (mkF m 35 (la2 p0 p1 p2 p3 p3 ((p0 &&& (3 : Int32)) * (8 : Int32))) [(.int ((p3.toUInt32 >>> (((p0 &&& (3 : Int32)) * (8 : Int32)) &&& 31).toUInt32).toInt32))]) _
    refine XS.sipush X0.here hx rfl (hb hby d3_35) ?_
    show GO p e below s₁ (mkF m 38 (la2 p0 p1 p2 p3 p3 ((p0 &&& (3 : Int32)) * (8 : Int32))) [(.int 255), (.int ((p3.toUInt32 >>> (((p0 &&& (3 : Int32)) * (8 : Int32)) &&& 31).toUInt32).toInt32))]) _
    refine XS.iand X0.here hx rfl (hb hby d3_38) rfl ?_
    show GO p e below s₁ (mkF m 39 (la2 p0 p1 p2 p3 p3 ((p0 &&& (3 : Int32)) * (8 : Int32))) [(.int (((p3.toUInt32 >>> (((p0 &&& (3 : Int32)) * (8 : Int32)) &&& 31).toUInt32).toInt32) &&& (255 : Int32)))]) _
    refine XS.i2c X0.here hx rfl (hb hby d3_39) rfl ?_
    show GO p e below s₁ (mkF m 40 (la2 p0 p1 p2 p3 p3 ((p0 &&& (3 : Int32)) * (8 : Int32))) [(.int ((((p3.toUInt32 >>> (((p0 &&& (3 : Int32)) * (8 : Int32)) &&& 31).toUInt32).toInt32) &&& (255 : Int32)).toUInt32.toUInt16.toUInt32.toInt32))]) _
    exact retN X0 hx (t := .char) Bd.returns (by simp) (hb hby d3_40) hr
   ·show Qrm_dr Z p0 p1 p2 p3 h0 n0 _ s₁.heap _
    rw [e0]
    exact ⟨(nar .char ((((p3.toUInt32 >>> (((p0 &&& (3 : Int32)) * (8 : Int32)) &&& 31).toUInt32).toInt32) &&& (255 : Int32)).toUInt32.toUInt16.toUInt32.toInt32)), rfl, N0, rfl, (own_nch _).1, (own_nch _).2⟩
def Qrm_at (Z : State) (p0 : Int32) (p2 : Int32) (p3 : Int32) (p4 : Int32) (p5 : Int32) (p6 : Int32) (p7 : Int32) (x1 : Addr) (t1 : Addr) (k1 : ClassId) (N1 : Int32) (vs1 : List Value) (cs1 : List Int32) (z0 : Int32) (f0 : Value) (h0 : Heap) (n0 : Nat) (v : Option Value) (h : Heap) (L : List Loc) : Prop := ∃ cv : Int32, v = some (.int cv) ∧ Fr n0 L ∧ h = h0 ∧ (¬ cv < 0 ∧ ¬ (255 : Int32) < cv) ∧ nar .char cv = cv
theorem ef_rm_at (m : MethodId) (x0 : Int32) (x1 : Addr) (x2 : Int32) (x3 : Int32) (x4 : Int32) (x5 : Int32) (x6 : Int32) (x7 : Int32) : entryFrame m #[(.int x0), (.ref x1), (.int x2), (.int x3), (.int x4), (.int x5), (.int x6), (.int x7)] 8 = mkF m 0 (la3 x0 x1 x2 x3 x4 x5 x6 x7) [] := by first | rfl | (simp [entryFrame, mkF, argsToLocals, Value.category]; done)
theorem rm_at (l : Launch) (Z : State) (a0 : Array Value) (hw : HW Z a0) (ws : List Jvm.Cond) (p0 : Int32) (p2 : Int32) (p3 : Int32) (p4 : Int32) (p5 : Int32) (p6 : Int32) (p7 : Int32) (x1 : Addr) (t1 : Addr) (k1 : ClassId) (N1 : Int32) (vs1 : List Value) (cs1 : List Int32) (z0 : Int32) (f0 : Value) (h0 : Heap) (n0 : Nat) (Z0 : n0 ≤ h0.size) (O0 : Old Z n0 h0) (Es1 : Exa Z h0 x1 kS0) (Fc1 : Fld Z h0 x1 kS0 "coder" "B" (.int 0)) (Fv1 : Fld Z h0 x1 kS0 "value" "[B" (.ref t1)) (Vs1 : Arv Z h0 t1 k1 .byte N1 vs1 (.int 0)) (SZc : Sta Z Z.heap kS0 "COMPACT_STRINGS" "Z" (.int z0)) (hz0 : ¬ z0 = 0) (SZf : Sta Z Z.heap "jdk/internal/util/Preconditions" "SIOOBE_FORMATTER" "Ljava/util/function/BiFunction;" f0) (rf0 : f0.isRef = true) (hcd1 : StrChars.Road.CodA cs1 0 N1 vs1) (hbd1 : ∀ c ∈ cs1, ¬ c < 0 ∧ ¬ (65535 : Int32) < c) (hl1 : cs1.length ≤ 4000) (h8 : ∀ c ∈ cs1, ¬ c < 0 ∧ ¬ (255 : Int32) < c) (hp0 : ¬ p0 < 0) (hp4 : (¬ p4 < 0 ∧ ¬ (255 : Int32) < p4)) (hq4 : nar .char p4 = p4) :
  OwnM l Z h0 (⟨kS1, "at", kS3⟩ : MethodName) (Jvm.Cond.code (⟨kS1, "at", kS3⟩ : MethodName) method_6_code 8 (some .char) :: ws) (RM 4 0 0 53) #[(.int p0), (.ref x1), (.int p2), (.int p3), (.int p4), (.int p5), (.int p6), (.int p7)] (Qrm_at Z p0 p2 p3 p4 p5 p6 p7 x1 t1 k1 N1 vs1 cs1 z0 f0 h0 n0) := by
 refine MetFree.of_bodySF (plainFor_of_name pn_0) hisR ?_
 intro p e s m args below meth c s₁ Bd hml0 hP hK
 obtain ⟨rfl, hZ, hh⟩ := hP
 have hx := Bd.exec
 have hby := Bd.bytes
 have hml : c.maxLocals = 8 := hml0
 have hown : s.vm.findClass kS1 = some m.cls := findClass_of_methodNamed Bd.named
 have hnm := (name_of_methodNamed Bd.named Bd.method).1
 have X0 : Stand p l e (RM 4 0 0 53) s m #[(.int p0), (.ref x1), (.int p2), (.int p3), (.int p4), (.int p5), (.int p6), (.int p7)] below meth c s₁ [] 0 0 := Stand.of_body Bd
 have e0 : s₁.heap = h0 := by rw [← hh, Bd.state]; rfl
 have N0 := Fr.nil n0
 have pre0 : ∀ t, GO p e below s₁ (mkF m 0 (la3 p0 x1 p2 p3 p4 p5 p6 p7) []) t → GO p e below s₁ (entryFrame m #[(.int p0), (.ref x1), (.int p2), (.int p3), (.int p4), (.int p5), (.int p6), (.int p7)] 8) t := fun t k => castTop (ef_rm_at m p0 x1 p2 p3 p4 p5 p6 p7) k
 have lt_Es1 := ltA Es1.lt
 have lt_Fc1 := ltA Fc1.lt
 have lt_Fv1 := ltA Fv1.lt
 have lt_Vs1 := ltA Vs1.lt
 have pre5 : ∀ t, GO p e below s₁ (mkF m 2 (la3 p0 x1 p2 p3 p4 p5 p6 p7) [(.int p3), (.int p0)]) t → GO p e below s₁ (entryFrame m #[(.int p0), (.ref x1), (.int p2), (.int p3), (.int p4), (.int p5), (.int p6), (.int p7)] 8) t := by
  intro t kt
  refine pre0 t ?_
  show GO p e below s₁ (mkF m 0 (la3 p0 x1 p2 p3 p4 p5 p6 p7) []) _
  refine XS.iloadN X0.here hx rfl (hb hby d2_0) rfl ?_
  show GO p e below s₁ (mkF m 1 (la3 p0 x1 p2 p3 p4 p5 p6 p7) [(.int p0)]) _
  refine XS.iloadN X0.here hx rfl (hb hby d2_1) rfl ?_
  exact kt
 by_cases hb6 : p0 = p3
 ·obtain ⟨fs, hr, hrun, hended, hW, hsame⟩ := X0.leave (v := some (.int (nar .char p4))) (fun h => by rw [Bd.returns] at h; cases h)
  refine ⟨_, _, pre5 _ ?_, hrun, hended, _, _, rfl, ?_, ⟨_, rfl⟩, hW, hsame.mono (by decide) (by decide)⟩
  ·show GO p e below s₁ (mkF m 2 (la3 p0 x1 p2 p3 p4 p5 p6 p7) [(.int p3), (.int p0)]) _
   refine XS.icmpNo X0.here hx rfl (hb hby d2_2) rfl (teq (hb6 : p0 = p3)).2 ?_
   show GO p e below s₁ (mkF m 5 (la3 p0 x1 p2 p3 p4 p5 p6 p7) []) _
   refine XS.iload X0.here hx rfl (hb hby d2_5) rfl ?_
   show GO p e below s₁ (mkF m 7 (la3 p0 x1 p2 p3 p4 p5 p6 p7) [(.int p4)]) _
   exact retN X0 hx (t := .char) Bd.returns (by simp) (hb hby d2_7) hr
  ·show Qrm_at Z p0 p2 p3 p4 p5 p6 p7 x1 t1 k1 N1 vs1 cs1 z0 f0 h0 n0 _ s₁.heap _
   rw [e0]
   exact ⟨(nar .char p4), rfl, N0, rfl, (by rw [hq4]; exact hp4), (by rw [hq4]; exact hq4)⟩
 ·have pre7 : ∀ t, GO p e below s₁ (mkF m 9 (la3 p0 x1 p2 p3 p4 p5 p6 p7) [(.int p2)]) t → GO p e below s₁ (entryFrame m #[(.int p0), (.ref x1), (.int p2), (.int p3), (.int p4), (.int p5), (.int p6), (.int p7)] 8) t := by
   intro t kt
   refine pre5 t ?_
   show GO p e below s₁ (mkF m 2 (la3 p0 x1 p2 p3 p4 p5 p6 p7) [(.int p3), (.int p0)]) _
   refine XS.icmpYes X0.here hx rfl (pc0 := 2) (pc' := 8) rfl (hb hby d2_2) rfl (feq (hb6 : ¬ (p0 = p3))).2 (by decide) (by decide) ?_
   show GO p e below s₁ (mkF m 8 (la3 p0 x1 p2 p3 p4 p5 p6 p7) []) _
   refine XS.iloadN X0.here hx rfl (hb hby d2_8) rfl ?_
   exact kt
  by_cases hb8 : p2 = (0 : Int32)
  ·-- pc 33: KindNamedPinLaw.drawn by rm_dr
   obtain ⟨_, _, ⟨T9, L9, k9, n9⟩, -, X9, ⟨Lc9, hQ9, l9, y9, z9⟩, st9⟩ := Jvm.LawKit.callS X0 hx (y := (⟨kS1, "drawn", "(IIII)C"⟩ : MethodName)) hown (mvT hZ (wd hw 17 rfl)) (mvT hZ (wd hw 18 rfl)) (mvT hZ (wd hw 2 rfl)) (mvT hZ (wd hw 19 rfl)) (by decide) (backOf (W := 0) (rm_dr l Z a0 hw [] p0 p5 p6 p7 h0 n0 Z0) hZ (wd hw 19 rfl) (wd hw 2 rfl) (by decide) (by decide)) (g := (mkF m 33 (la3 p0 x1 p2 p3 p4 p5 p6 p7) [(.int p7), (.int p6), (.int p5), (.int p0)])) rfl (by rw [hml]; rfl) (argsL := [(.int p0), (.int p5), (.int p6), (.int p7)]) (rest := []) (lenOf pd_0 rfl) rfl (wz rfl) (hb hby d2_33) (fun _ _ => ⟨rfl, e0, (by decide : 0 + 0 ≤ _), (by decide : 0 + 0 ≤ _)⟩)
   dsimp only [Pt.U, Pt.locs, Pt.cells, Pt.slots] at X9 l9 y9 z9 st9 hQ9
   rw [l9, y9, z9] at X9
   obtain ⟨cv_9, rfl, N9q, e9, r9_0, r9_1⟩ := hQ9
   have N9 := Fr.app N0 N9q
   obtain ⟨fs, hr, hrun, hended, hW, hsame⟩ := X9.leave (v := some (.int (nar .char cv_9))) (fun h => by rw [Bd.returns] at h; cases h)
   refine ⟨_, _, pre7 _ ?_, hrun, hended, _, _, rfl, ?_, ⟨_, rfl⟩, hW, hsame.mono (by decide) (by decide)⟩
   ·show GO p e below s₁ (mkF m 9 (la3 p0 x1 p2 p3 p4 p5 p6 p7) [(.int p2)]) _
    refine XS.ifYes X0.here hx rfl (pc0 := 9) (pc' := 26) rfl (hb hby d2_9) rfl ((if0 _ _).trans (teq (hb8 : p2 = (0 : Int32))).1) (by decide) (by decide) ?_
    show GO p e below s₁ (mkF m 26 (la3 p0 x1 p2 p3 p4 p5 p6 p7) []) _
    refine XS.iloadN X0.here hx rfl (hb hby d2_26) rfl ?_
    show GO p e below s₁ (mkF m 27 (la3 p0 x1 p2 p3 p4 p5 p6 p7) [(.int p0)]) _
    refine XS.iload X0.here hx rfl (hb hby d2_27) rfl ?_
    show GO p e below s₁ (mkF m 29 (la3 p0 x1 p2 p3 p4 p5 p6 p7) [(.int p5), (.int p0)]) _
    refine XS.iload X0.here hx rfl (hb hby d2_29) rfl ?_
    show GO p e below s₁ (mkF m 31 (la3 p0 x1 p2 p3 p4 p5 p6 p7) [(.int p6), (.int p5), (.int p0)]) _
    refine XS.iload X0.here hx rfl (hb hby d2_31) rfl ?_
    show GO p e below s₁ (mkF m 33 (la3 p0 x1 p2 p3 p4 p5 p6 p7) [(.int p7), (.int p6), (.int p5), (.int p0)]) _
    refine st9 _ ?_
    show GO p e below T9 (mkF m 36 (la3 p0 x1 p2 p3 p4 p5 p6 p7) [(.int cv_9)]) _
    exact retN X9 hx (t := .char) Bd.returns (by simp) (hb hby d2_36) hr
   ·show Qrm_at Z p0 p2 p3 p4 p5 p6 p7 x1 t1 k1 N1 vs1 cs1 z0 f0 h0 n0 _ T9.heap _
    rw [e9]
    exact ⟨(nar .char cv_9), rfl, N9, rfl, (by rw [r9_1]; exact r9_0), (by rw [r9_1]; exact r9_1)⟩
  ·have S10 : Sta Z h0 kS0 "COMPACT_STRINGS" "Z" (.int z0) := SZc.ext O0.2
   obtain ⟨cq11, kq11, q11a, q11b, q11c⟩ := isOf hZ e0 Es1
   obtain ⟨v11, _, ⟨T11, L11, k11, n11⟩, -, X11, ⟨Lc11, hQ11, l11, y11, z11⟩, st11⟩ := X0.virtualBack hx (y := (⟨kS0, "length", "()I"⟩ : MethodName)) (z := (⟨kS0, "length", "()I"⟩ : MethodName)) hown (mvT hZ (wd hw 86 rfl)) (mvT hZ (wd hw 87 rfl)) (notFace_of_selects (args := #[]) (mvT hZ (wd hw 89 rfl))) (mvT hZ (wd hw 89 rfl)) (mvT hZ (wd hw 88 rfl)) (by decide) (StrChars.Road.lenW (W := 1) hZ (own_hln hw) (kI := 4) (wd hw 6 rfl) Es1 Fv1 Fc1 Vs1 hcd1 hbd1 S10 hz0 hl1 (by decide) (by decide)) q11a q11c (g := (mkF m 14 (la3 p0 x1 p2 p3 p4 p5 p6 p7) [(.ref x1), (.int p0)])) rfl (by rw [hml]; rfl) (Steps.refl _) (argsL := []) (rest := [(.int p0)]) (lenOf pd_1 rfl) rfl (wz rfl) (hb hby d2_14) (fun _ _ => ⟨rfl, e0, (by decide : 0 + 0 ≤ _), (by decide : 0 + 0 ≤ _)⟩)
   dsimp only [Pt.U, Pt.locs, Pt.cells, Pt.slots] at X11 l11 y11 z11 st11 hQ11
   rw [l11, y11, z11] at X11
   obtain ⟨rfl, rfl, e11⟩ := hQ11
   have N11 : Fr n0 _ := Fr.app N0 (Fr.nil n0)
   have pre12 : ∀ t, GO p e below T11 (mkF m 17 (la3 p0 x1 p2 p3 p4 p5 p6 p7) [(.int (Int32.ofNat (cs1).length)), (.int p0)]) t → GO p e below s₁ (entryFrame m #[(.int p0), (.ref x1), (.int p2), (.int p3), (.int p4), (.int p5), (.int p6), (.int p7)] 8) t := by
    intro t kt
    refine pre7 t ?_
    show GO p e below s₁ (mkF m 9 (la3 p0 x1 p2 p3 p4 p5 p6 p7) [(.int p2)]) _
    refine XS.ifNo X0.here hx rfl (hb hby d2_9) rfl ((if0 _ _).trans (feq (hb8 : ¬ (p2 = (0 : Int32)))).1) ?_
    show GO p e below s₁ (mkF m 12 (la3 p0 x1 p2 p3 p4 p5 p6 p7) []) _
    refine XS.iloadN X0.here hx rfl (hb hby d2_12) rfl ?_
    show GO p e below s₁ (mkF m 13 (la3 p0 x1 p2 p3 p4 p5 p6 p7) [(.int p0)]) _
    refine XS.aloadN X0.here hx rfl (hb hby d2_13) rfl rfl ?_
    show GO p e below s₁ (mkF m 14 (la3 p0 x1 p2 p3 p4 p5 p6 p7) [(.ref x1), (.int p0)]) _
    refine st11.trans ?_
    exact kt
   by_cases hb13 : p0 < (Int32.ofNat (cs1).length)
   ·obtain ⟨hi, hj⟩ := own_idx hp0 hb13 hl1
    have S14 : Sta Z h0 kS0 "COMPACT_STRINGS" "Z" (.int z0) := SZc.ext O0.2
    have S15 : Sta Z h0 "jdk/internal/util/Preconditions" "SIOOBE_FORMATTER" "Ljava/util/function/BiFunction;" f0 := SZf.ext O0.2
    obtain ⟨cq16, kq16, q16a, q16b, q16c⟩ := isOf hZ e11 Es1
    obtain ⟨v16, _, ⟨T16, L16, k16, n16⟩, -, X16, ⟨Lc16, hQ16, l16, y16, z16⟩, st16⟩ := X11.virtualBack hx (y := (⟨kS0, "charAt", "(I)C"⟩ : MethodName)) (z := (⟨kS0, "charAt", "(I)C"⟩ : MethodName)) hown (mvT hZ (wd hw 96 rfl)) (mvT hZ (wd hw 97 rfl)) (notFace_of_selects (args := #[]) (mvT hZ (wd hw 99 rfl))) (mvT hZ (wd hw 99 rfl)) (mvT hZ (wd hw 98 rfl)) (by decide) (StrChars.Road.chN (W := 0) hZ (own_hch hw) (kI := 4) (wd hw 6 rfl) Es1 Fv1 Fc1 Vs1 hcd1 hbd1 S14 hz0 S15 rf0 hl1 (i := (p0.toNatClampNeg)) hi (j := p0) hj (by decide) (by decide)) q16a q16c (g := (mkF m 22 (la3 p0 x1 p2 p3 p4 p5 p6 p7) [(.int p0), (.ref x1)])) rfl (by rw [hml]; rfl) (Steps.refl _) (argsL := [(.int p0)]) (rest := []) (lenOf pd_2 rfl) rfl (wz rfl) (hb hby d2_22) (fun _ _ => ⟨rfl, e11, (by decide : 0 + 0 ≤ _), (by decide : 0 + 0 ≤ _)⟩)
    dsimp only [Pt.U, Pt.locs, Pt.cells, Pt.slots] at X16 l16 y16 z16 st16 hQ16
    rw [l16, y16, z16] at X16
    obtain ⟨rfl, rfl, e16⟩ := hQ16
    have N16 : Fr n0 _ := Fr.app N11 (Fr.nil n0)
    have hg := own_getD h8 p0.toNatClampNeg
    obtain ⟨fs, hr, hrun, hended, hW, hsame⟩ := X16.leave (v := some (.int (nar .char ((cs1).getD (p0.toNatClampNeg) 0)))) (fun h => by rw [Bd.returns] at h; cases h)
    refine ⟨_, _, pre12 _ ?_, hrun, hended, _, _, rfl, ?_, ⟨_, rfl⟩, hW, hsame.mono (by decide) (by decide)⟩
    ·show GO p e below T11 (mkF m 17 (la3 p0 x1 p2 p3 p4 p5 p6 p7) [(.int (Int32.ofNat (cs1).length)), (.int p0)]) _
     refine XS.icmpNo X11.here hx rfl (hb hby d2_17) rfl (tlt (hb13 : p0 < (Int32.ofNat (cs1).length))).2.1 ?_
     show GO p e below T11 (mkF m 20 (la3 p0 x1 p2 p3 p4 p5 p6 p7) []) _
     refine XS.aloadN X11.here hx rfl (hb hby d2_20) rfl rfl ?_
     show GO p e below T11 (mkF m 21 (la3 p0 x1 p2 p3 p4 p5 p6 p7) [(.ref x1)]) _
     refine XS.iloadN X11.here hx rfl (hb hby d2_21) rfl ?_
     show GO p e below T11 (mkF m 22 (la3 p0 x1 p2 p3 p4 p5 p6 p7) [(.int p0), (.ref x1)]) _
     refine st16.trans ?_
     show GO p e below T16 (mkF m 25 (la3 p0 x1 p2 p3 p4 p5 p6 p7) [(.int ((cs1).getD (p0.toNatClampNeg) 0))]) _
     exact retN X16 hx (t := .char) Bd.returns (by simp) (hb hby d2_25) hr
    ·show Qrm_at Z p0 p2 p3 p4 p5 p6 p7 x1 t1 k1 N1 vs1 cs1 z0 f0 h0 n0 _ T16.heap _
     rw [e16]
     exact ⟨(nar .char ((cs1).getD (p0.toNatClampNeg) 0)), rfl, N16, rfl, (by rw [hg.2]; exact hg.1), (by rw [hg.2]; exact hg.2)⟩
   ·-- pc 33: KindNamedPinLaw.drawn by rm_dr
    obtain ⟨_, _, ⟨T17, L17, k17, n17⟩, -, X17, ⟨Lc17, hQ17, l17, y17, z17⟩, st17⟩ := Jvm.LawKit.callS X11 hx (y := (⟨kS1, "drawn", "(IIII)C"⟩ : MethodName)) hown (mvT hZ (wd hw 17 rfl)) (mvT hZ (wd hw 18 rfl)) (mvT hZ (wd hw 2 rfl)) (mvT hZ (wd hw 19 rfl)) (by decide) (backOf (W := 0) (rm_dr l Z a0 hw [] p0 p5 p6 p7 h0 n0 Z0) hZ (wd hw 19 rfl) (wd hw 2 rfl) (by decide) (by decide)) (g := (mkF m 33 (la3 p0 x1 p2 p3 p4 p5 p6 p7) [(.int p7), (.int p6), (.int p5), (.int p0)])) rfl (by rw [hml]; rfl) (argsL := [(.int p0), (.int p5), (.int p6), (.int p7)]) (rest := []) (lenOf pd_0 rfl) rfl (wz rfl) (hb hby d2_33) (fun _ _ => ⟨rfl, e11, (by decide : 0 + 0 ≤ _), (by decide : 0 + 0 ≤ _)⟩)
    dsimp only [Pt.U, Pt.locs, Pt.cells, Pt.slots] at X17 l17 y17 z17 st17 hQ17
    rw [l17, y17, z17] at X17
    obtain ⟨cv_17, rfl, N17q, e17, r17_0, r17_1⟩ := hQ17
    have N17 := Fr.app N11 N17q
    obtain ⟨fs, hr, hrun, hended, hW, hsame⟩ := X17.leave (v := some (.int (nar .char cv_17))) (fun h => by rw [Bd.returns] at h; cases h)
    refine ⟨_, _, pre12 _ ?_, hrun, hended, _, _, rfl, ?_, ⟨_, rfl⟩, hW, hsame.mono (by decide) (by decide)⟩
    ·show GO p e below T11 (mkF m 17 (la3 p0 x1 p2 p3 p4 p5 p6 p7) [(.int (Int32.ofNat (cs1).length)), (.int p0)]) _
     refine XS.icmpYes X11.here hx rfl (pc0 := 17) (pc' := 26) rfl (hb hby d2_17) rfl (flt (hb13 : ¬ (p0 < (Int32.ofNat (cs1).length)))).2.1 (by decide) (by decide) ?_
     show GO p e below T11 (mkF m 26 (la3 p0 x1 p2 p3 p4 p5 p6 p7) []) _
     refine XS.iloadN X11.here hx rfl (hb hby d2_26) rfl ?_
     show GO p e below T11 (mkF m 27 (la3 p0 x1 p2 p3 p4 p5 p6 p7) [(.int p0)]) _
     refine XS.iload X11.here hx rfl (hb hby d2_27) rfl ?_
     show GO p e below T11 (mkF m 29 (la3 p0 x1 p2 p3 p4 p5 p6 p7) [(.int p5), (.int p0)]) _
     refine XS.iload X11.here hx rfl (hb hby d2_29) rfl ?_
     show GO p e below T11 (mkF m 31 (la3 p0 x1 p2 p3 p4 p5 p6 p7) [(.int p6), (.int p5), (.int p0)]) _
     refine XS.iload X11.here hx rfl (hb hby d2_31) rfl ?_
     show GO p e below T11 (mkF m 33 (la3 p0 x1 p2 p3 p4 p5 p6 p7) [(.int p7), (.int p6), (.int p5), (.int p0)]) _
     refine st17 _ ?_
     show GO p e below T17 (mkF m 36 (la3 p0 x1 p2 p3 p4 p5 p6 p7) [(.int cv_17)]) _
     exact retN X17 hx (t := .char) Bd.returns (by simp) (hb hby d2_36) hr
    ·show Qrm_at Z p0 p2 p3 p4 p5 p6 p7 x1 t1 k1 N1 vs1 cs1 z0 f0 h0 n0 _ T17.heap _
     rw [e17]
     exact ⟨(nar .char cv_17), rfl, N17, rfl, (by rw [r17_1]; exact r17_0), (by rw [r17_1]; exact r17_1)⟩
def Qrm_word (Z : State) (p0 : Int32) (h0 : Heap) (n0 : Nat) (v : Option Value) (h : Heap) (L : List Loc) : Prop := ∃ r : Addr, ∃ t : Addr, ∃ k : ClassId, ∃ N : Int32, ∃ vs : List Value, ∃ cs : List Int32, v = some (.ref r) ∧ Fr n0 L ∧ Keep h0 h [] ∧ Exa Z h r kS0 ∧ Fld Z h r kS0 "coder" "B" (.int 0) ∧ Fld Z h r kS0 "value" "[B" (.ref t) ∧ Arv Z h t k .byte N vs (.int 0) ∧ StrChars.Road.CodA cs 0 N vs ∧ (∀ c ∈ cs, ¬ c < 0 ∧ ¬ (65535 : Int32) < c) ∧ cs.length ≤ 4000 ∧ (∀ c ∈ cs, ¬ c < 0 ∧ ¬ (255 : Int32) < c) ∧ (cs = own_lc0 ∨ cs = own_lc1 ∨ cs = own_lc2 ∨ cs = own_lc3)
theorem ef_rm_word (m : MethodId) (x0 : Int32) : entryFrame m #[(.int x0)] 1 = mkF m 0 #[.val (.int x0)] [] := by first | rfl | (simp [entryFrame, mkF, argsToLocals, Value.category]; done)
theorem rm_word (l : Launch) (Z : State) (a0 : Array Value) (hw : HW Z a0) (ws : List Jvm.Cond) (p0 : Int32) (h0 : Heap) (n0 : Nat) (Z0 : n0 ≤ h0.size) :
  OwnW l Z h0 (⟨kS1, "word", "(I)Ljava/lang/String;"⟩ : MethodName) (Jvm.Cond.code (⟨kS1, "word", "(I)Ljava/lang/String;"⟩ : MethodName) method_3_code 1 (some (.object kS0)) :: ws) (RM 0 2 40 0) #[(.int p0)] [] (Qrm_word Z p0 h0 n0) := by
 refine MetFree.of_bodySF (plainFor_of_name pn_0) hisR ?_
 intro p e s m args below meth c s₁ Bd hml0 hP hK
 obtain ⟨rfl, hZ, hh, H0, sf⟩ := hP
 have hx := Bd.exec
 have hby := Bd.bytes
 have hml : c.maxLocals = 1 := hml0
 have hown : s.vm.findClass kS1 = some m.cls := findClass_of_methodNamed Bd.named
 have hnm := (name_of_methodNamed Bd.named Bd.method).1
 have X0 : Stand p l e (RM 0 2 40 0) (s.setVm s.vm) m #[(.int p0)] below meth c s₁ [] 0 0 := Stand.of_body Bd
 have hS0 : s.Since s.vm h0.size := (State.WarmedH.refl s).since _
 have C0 : CHr Z EL1 s.vm h0 s.vm h0 := CHr.refl H0
 have e0 : s₁.heap = h0 := by rw [← hh, Bd.state]; rfl
 have N0 := Fr.nil n0
 have pre0 : ∀ t, GO p e below s₁ (mkF m 0 #[.val (.int p0)] []) t → GO p e below s₁ (entryFrame m #[(.int p0)] 1) t := fun t k => castTop (ef_rm_word m p0) k
 have pre18 : ∀ t, GO p e below s₁ (mkF m 1 #[.val (.int p0)] [(.int p0)]) t → GO p e below s₁ (entryFrame m #[(.int p0)] 1) t := by
  intro t kt
  refine pre0 t ?_
  show GO p e below s₁ (mkF m 0 #[.val (.int p0)] []) _
  refine XS.iloadN X0.here hx rfl (hb hby d1_0) rfl ?_
  exact kt
 by_cases hb19 : p0 = (0 : Int32)
 ·obtain ⟨sa20, T20, h20, kk20, sb20, sk20, X20, e20, E20, hS20, hk20, hZ20, hown20, A20, Fc20, Fv20, V20, lt20, ltb20, C20w, Lt20, ne20, st20⟩ := ldcCH X0 hx hZ hown (wd hw 4 rfl) (own_wS hw) e0 hS0 (by omega) (own_EW hw) (by decide) C0.1 (vs := [(.int 117), (.int 115), (.int 101), (.int 114)]) (z := (4 : Int32)) (by decide +kernel) (by decide) (by decide) (g := (mkF m 4 #[.val (.int p0)] [])) rfl (hb hby d1_4) (n := 16) (by decide) (by decide) (by decide) (by decide)
  have C21 : CHr Z EL1 s.vm h0 T20.vm h20 := C0.trans (C20w)
  have sz20 : h0.size ≤ h20.size := E20.1
  have nz20 := Nat.le_trans Z0 sz20
  have lv20 := ltA lt20
  have lw20 := ltA ltb20
  obtain ⟨fs, hr, hrun, hended, hE⟩ := X20.leaveW hS20 (by rw [e20]; omega) (v := some (.ref sa20)) (fun h => by rw [Bd.returns] at h; cases h)
  have CE := C21.trans (CHv.at X20 hZ20 (own_EW hw) C21.1)
  refine ⟨_, _, pre18 _ ?_, hrun, hended, _, _, rfl, ?_, ?_, ⟨hE.1, hE.2.1, hE.2.2.1, hE.2.2.2.mono (by decide) (by decide)⟩⟩
  ·show GO p e below s₁ (mkF m 1 #[.val (.int p0)] [(.int p0)]) _
   refine XS.ifNo X0.here hx rfl (hb hby d1_1) rfl ((if0 _ _).trans (teq (hb19 : p0 = (0 : Int32))).2) ?_
   show GO p e below s₁ (mkF m 4 #[.val (.int p0)] []) _
   refine st20 _ ?_
   show GO p e below T20 (mkF m 6 #[.val (.int p0)] [(.ref sa20)]) _
   exact retOut X20 hx Bd.returns rfl (Or.inr (Or.inr (Or.inr (Or.inr ⟨rfl, rfl, rfl⟩)))) (hb hby d1_6) hr
  ·show Qrm_word Z p0 h0 n0 _ T20.heap _
   rw [e20]
   exact ⟨sa20, sb20, sk20, (4 : Int32), _, own_lc0, rfl, N0, ((Keep.refl h0 []).ext E20), A20, Fc20, Fv20, V20, own_lcod0, own_lbd0, own_lle0, own_lb8_0, (Or.inl rfl)⟩
  ·show CHr Z EL1 s.vm s.heap T20.vm T20.heap
   rw [hh, e20]
   exact CE
 ·have pre22 : ∀ t, GO p e below s₁ (mkF m 9 #[.val (.int p0)] [(.int 1), (.int p0)]) t → GO p e below s₁ (entryFrame m #[(.int p0)] 1) t := by
   intro t kt
   refine pre18 t ?_
   show GO p e below s₁ (mkF m 1 #[.val (.int p0)] [(.int p0)]) _
   refine XS.ifYes X0.here hx rfl (pc0 := 1) (pc' := 7) rfl (hb hby d1_1) rfl ((if0 _ _).trans (feq (hb19 : ¬ (p0 = (0 : Int32)))).2) (by decide) (by decide) ?_
   show GO p e below s₁ (mkF m 7 #[.val (.int p0)] []) _
   refine XS.iloadN X0.here hx rfl (hb hby d1_7) rfl ?_
   show GO p e below s₁ (mkF m 8 #[.val (.int p0)] [(.int p0)]) _
   refine XS.iconst X0.here hx rfl (hb hby d1_8) ?_
   exact kt
  by_cases hb23 : p0 = (1 : Int32)
  ·obtain ⟨sa24, T24, h24, kk24, sb24, sk24, X24, e24, E24, hS24, hk24, hZ24, hown24, A24, Fc24, Fv24, V24, lt24, ltb24, C24w, Lt24, ne24, st24⟩ := ldcCH X0 hx hZ hown (wd hw 83 rfl) (own_wS hw) e0 hS0 (by omega) (own_EW hw) (by decide) C0.1 (vs := [(.int 103), (.int 114), (.int 111), (.int 117), (.int 112)]) (z := (5 : Int32)) (by decide +kernel) (by decide) (by decide) (g := (mkF m 12 #[.val (.int p0)] [])) rfl (hb hby d1_12) (n := 20) (by decide) (by decide) (by decide) (by decide)
   have C25 : CHr Z EL1 s.vm h0 T24.vm h24 := C0.trans (C24w)
   have sz24 : h0.size ≤ h24.size := E24.1
   have nz24 := Nat.le_trans Z0 sz24
   have lv24 := ltA lt24
   have lw24 := ltA ltb24
   obtain ⟨fs, hr, hrun, hended, hE⟩ := X24.leaveW hS24 (by rw [e24]; omega) (v := some (.ref sa24)) (fun h => by rw [Bd.returns] at h; cases h)
   have CE := C25.trans (CHv.at X24 hZ24 (own_EW hw) C25.1)
   refine ⟨_, _, pre22 _ ?_, hrun, hended, _, _, rfl, ?_, ?_, ⟨hE.1, hE.2.1, hE.2.2.1, hE.2.2.2.mono (by decide) (by decide)⟩⟩
   ·show GO p e below s₁ (mkF m 9 #[.val (.int p0)] [(.int 1), (.int p0)]) _
    refine XS.icmpNo X0.here hx rfl (hb hby d1_9) rfl (teq (hb23 : p0 = (1 : Int32))).2 ?_
    show GO p e below s₁ (mkF m 12 #[.val (.int p0)] []) _
    refine st24 _ ?_
    show GO p e below T24 (mkF m 14 #[.val (.int p0)] [(.ref sa24)]) _
    exact retOut X24 hx Bd.returns rfl (Or.inr (Or.inr (Or.inr (Or.inr ⟨rfl, rfl, rfl⟩)))) (hb hby d1_14) hr
   ·show Qrm_word Z p0 h0 n0 _ T24.heap _
    rw [e24]
    exact ⟨sa24, sb24, sk24, (5 : Int32), _, own_lc1, rfl, N0, ((Keep.refl h0 []).ext E24), A24, Fc24, Fv24, V24, own_lcod1, own_lbd1, own_lle1, own_lb8_1, (Or.inr (Or.inl rfl))⟩
   ·show CHr Z EL1 s.vm s.heap T24.vm T24.heap
    rw [hh, e24]
    exact CE
  ·have pre26 : ∀ t, GO p e below s₁ (mkF m 17 #[.val (.int p0)] [(.int 2), (.int p0)]) t → GO p e below s₁ (entryFrame m #[(.int p0)] 1) t := by
    intro t kt
    refine pre22 t ?_
    show GO p e below s₁ (mkF m 9 #[.val (.int p0)] [(.int 1), (.int p0)]) _
    refine XS.icmpYes X0.here hx rfl (pc0 := 9) (pc' := 15) rfl (hb hby d1_9) rfl (feq (hb23 : ¬ (p0 = (1 : Int32)))).2 (by decide) (by decide) ?_
    show GO p e below s₁ (mkF m 15 #[.val (.int p0)] []) _
    refine XS.iloadN X0.here hx rfl (hb hby d1_15) rfl ?_
    show GO p e below s₁ (mkF m 16 #[.val (.int p0)] [(.int p0)]) _
    refine XS.iconst X0.here hx rfl (hb hby d1_16) ?_
    exact kt
   by_cases hb27 : p0 = (2 : Int32)
   ·obtain ⟨sa28, T28, h28, kk28, sb28, sk28, X28, e28, E28, hS28, hk28, hZ28, hown28, A28, Fc28, Fv28, V28, lt28, ltb28, C28w, Lt28, ne28, st28⟩ := ldcCH X0 hx hZ hown (wd hw 84 rfl) (own_wS hw) e0 hS0 (by omega) (own_EW hw) (by decide) C0.1 (vs := [(.int 114), (.int 111), (.int 108), (.int 101)]) (z := (4 : Int32)) (by decide +kernel) (by decide) (by decide) (g := (mkF m 20 #[.val (.int p0)] [])) rfl (hb hby d1_20) (n := 16) (by decide) (by decide) (by decide) (by decide)
    have C29 : CHr Z EL1 s.vm h0 T28.vm h28 := C0.trans (C28w)
    have sz28 : h0.size ≤ h28.size := E28.1
    have nz28 := Nat.le_trans Z0 sz28
    have lv28 := ltA lt28
    have lw28 := ltA ltb28
    obtain ⟨fs, hr, hrun, hended, hE⟩ := X28.leaveW hS28 (by rw [e28]; omega) (v := some (.ref sa28)) (fun h => by rw [Bd.returns] at h; cases h)
    have CE := C29.trans (CHv.at X28 hZ28 (own_EW hw) C29.1)
    refine ⟨_, _, pre26 _ ?_, hrun, hended, _, _, rfl, ?_, ?_, ⟨hE.1, hE.2.1, hE.2.2.1, hE.2.2.2.mono (by decide) (by decide)⟩⟩
    ·show GO p e below s₁ (mkF m 17 #[.val (.int p0)] [(.int 2), (.int p0)]) _
     refine XS.icmpNo X0.here hx rfl (hb hby d1_17) rfl (teq (hb27 : p0 = (2 : Int32))).2 ?_
     show GO p e below s₁ (mkF m 20 #[.val (.int p0)] []) _
     refine st28 _ ?_
     show GO p e below T28 (mkF m 22 #[.val (.int p0)] [(.ref sa28)]) _
     exact retOut X28 hx Bd.returns rfl (Or.inr (Or.inr (Or.inr (Or.inr ⟨rfl, rfl, rfl⟩)))) (hb hby d1_22) hr
    ·show Qrm_word Z p0 h0 n0 _ T28.heap _
     rw [e28]
     exact ⟨sa28, sb28, sk28, (4 : Int32), _, own_lc2, rfl, N0, ((Keep.refl h0 []).ext E28), A28, Fc28, Fv28, V28, own_lcod2, own_lbd2, own_lle2, own_lb8_2, (Or.inr (Or.inr (Or.inl rfl)))⟩
    ·show CHr Z EL1 s.vm s.heap T28.vm T28.heap
     rw [hh, e28]
     exact CE
   ·obtain ⟨sa30, T30, h30, kk30, sb30, sk30, X30, e30, E30, hS30, hk30, hZ30, hown30, A30, Fc30, Fv30, V30, lt30, ltb30, C30w, Lt30, ne30, st30⟩ := ldcCH X0 hx hZ hown (wd hw 85 rfl) (own_wS hw) e0 hS0 (by omega) (own_EW hw) (by decide) C0.1 (vs := [(.int 112), (.int 114), (.int 105), (.int 118), (.int 105), (.int 108), (.int 101), (.int 103), (.int 101)]) (z := (9 : Int32)) (by decide +kernel) (by decide) (by decide) (g := (mkF m 23 #[.val (.int p0)] [])) rfl (hb hby d1_23) (n := 36) (by decide) (by decide) (by decide) (by decide)
    have C31 : CHr Z EL1 s.vm h0 T30.vm h30 := C0.trans (C30w)
    have sz30 : h0.size ≤ h30.size := E30.1
    have nz30 := Nat.le_trans Z0 sz30
    have lv30 := ltA lt30
    have lw30 := ltA ltb30
    obtain ⟨fs, hr, hrun, hended, hE⟩ := X30.leaveW hS30 (by rw [e30]; omega) (v := some (.ref sa30)) (fun h => by rw [Bd.returns] at h; cases h)
    have CE := C31.trans (CHv.at X30 hZ30 (own_EW hw) C31.1)
    refine ⟨_, _, pre26 _ ?_, hrun, hended, _, _, rfl, ?_, ?_, ⟨hE.1, hE.2.1, hE.2.2.1, hE.2.2.2.mono (by decide) (by decide)⟩⟩
    ·show GO p e below s₁ (mkF m 17 #[.val (.int p0)] [(.int 2), (.int p0)]) _
     refine XS.icmpYes X0.here hx rfl (pc0 := 17) (pc' := 23) rfl (hb hby d1_17) rfl (feq (hb27 : ¬ (p0 = (2 : Int32)))).2 (by decide) (by decide) ?_
     show GO p e below s₁ (mkF m 23 #[.val (.int p0)] []) _
     refine st30 _ ?_
     show GO p e below T30 (mkF m 25 #[.val (.int p0)] [(.ref sa30)]) _
     exact retOut X30 hx Bd.returns rfl (Or.inr (Or.inr (Or.inr (Or.inr ⟨rfl, rfl, rfl⟩)))) (hb hby d1_25) hr
    ·show Qrm_word Z p0 h0 n0 _ T30.heap _
     rw [e30]
     exact ⟨sa30, sb30, sk30, (9 : Int32), _, own_lc3, rfl, N0, ((Keep.refl h0 []).ext E30), A30, Fc30, Fv30, V30, own_lcod3, own_lbd3, own_lle3, own_lb8_3, (Or.inr (Or.inr (Or.inr rfl)))⟩
    ·show CHr Z EL1 s.vm s.heap T30.vm T30.heap
     rw [hh, e30]
     exact CE
def Qrm_si0 (Z : State) (a1 : Addr) (a2 : Addr) (u1 : Value) (u2 : Value) (h0 : Heap) (n0 : Nat) (v : Option Value) (h : Heap) (L : List Loc) : Prop := ∃ t : Addr, ∃ k : ClassId, v = none ∧ Fr n0 L ∧ Keep h0 h [a1] ∧ Exa Z h a1 kS0 ∧ Fld Z h a1 kS0 "coder" "B" (.int 0) ∧ Fld Z h a1 kS0 "value" "[B" (.ref t) ∧ Arv Z h t k .byte (0 : Int32) [] (.int 0)
theorem ef_rm_si0 (m : MethodId) (x0 : Addr) (x1 : Addr) (x2 : Int32) (x3 : Int32) : entryFrame m #[(.ref x0), (.ref x1), (.int x2), (.int x3), .null] 6 = mkF m 0 (la4 x0 x1 x2 x3) [] := by first | rfl | (simp [entryFrame, mkF, argsToLocals, Value.category]; done)
theorem rm_si0 (l : Launch) (Z : State) (a0 : Array Value) (hw : HW Z a0) (ws : List Jvm.Cond) (a1 : Addr) (a2 : Addr) (u1 : Value) (u2 : Value) (h0 : Heap) (n0 : Nat) (Z0 : n0 ≤ h0.size) (E1 : Exa Z h0 a1 kS0) (Fv1 : Fld Z h0 a1 kS0 "value" "[B" u1) (Fc1 : Fld Z h0 a1 kS0 "coder" "B" u2) (g1 : n0 ≤ a1) :
  OwnW l Z h0 (⟨kS0, "<init>", "([CIILjava/lang/Void;)V"⟩ : MethodName) (Jvm.Cond.code (⟨kS0, "<init>", "([CIILjava/lang/Void;)V"⟩ : MethodName) jdk_42_method_149_code 6 none :: ws) (RM 1 4 8 12) #[(.ref a1), (.ref a2), (.int 0), (.int 0), .null] [a1] (Qrm_si0 Z a1 a2 u1 u2 h0 n0) := by
 refine MetFree.of_bodySF (plainFor_of_name pn_1) hisR ?_
 intro p e s m args below meth c s₁ Bd hml0 hP hK
 obtain ⟨rfl, hZ, hh, H0, sf⟩ := hP
 have hx := Bd.exec
 have hby := Bd.bytes
 have hml : c.maxLocals = 6 := hml0
 have hown : s.vm.findClass kS0 = some m.cls := findClass_of_methodNamed Bd.named
 have hnm := (name_of_methodNamed Bd.named Bd.method).1
 have X0 : Stand p l e (RM 1 4 8 12) (s.setVm s.vm) m #[(.ref a1), (.ref a2), (.int 0), (.int 0), .null] below meth c s₁ [] 0 0 := Stand.of_body Bd
 have hS0 : s.Since s.vm h0.size := (State.WarmedH.refl s).since _
 have C0 : CHr Z EL1 s.vm h0 s.vm h0 := CHr.refl H0
 have sf_a1 : Safe Z EL1 s.vm h0 a1 := sf _ (List.mem_of_getElem? (i := 0) rfl)
 have e0 : s₁.heap = h0 := by rw [← hh, Bd.state]; rfl
 have N0 := Fr.nil n0
 have pre0 : ∀ t, GO p e below s₁ (mkF m 0 (la4 a1 a2 (0 : Int32) (0 : Int32)) []) t → GO p e below s₁ (entryFrame m #[(.ref a1), (.ref a2), (.int 0), (.int 0), .null] 6) t := fun t k => castTop (ef_rm_si0 m a1 a2 ((0 : Int32)) ((0 : Int32))) k
 have lt_E1 := ltA E1.lt
 have lt_Fv1 := ltA Fv1.lt
 have lt_Fc1 := ltA Fc1.lt
 obtain ⟨T32, X32, e32, st32⟩ := initO X0 hx hZ hown (wd hw 28 rfl) (wd hw 29 rfl) (wd hw 30 rfl) e0 (g := (mkF m 1 (la4 a1 a2 (0 : Int32) (0 : Int32)) [(.ref a1)])) rfl (by rw [hml]; rfl) rfl (hb hby d5_1) (by decide) (W := 0) (wz rfl) (by decide)
 obtain ⟨sa33, T33, h33, kk33, sb33, sk33, X33, e33, E33, hS33, hk33, hZ33, hown33, A33, Fc33, Fv33, V33, lt33, ltb33, C33w, Lt33, ne33, st33⟩ := ldcCH X32 hx hZ hown (wd hw 118 rfl) (own_wS hw) e32 hS0 (by omega) (own_EW hw) (by decide) C0.1 (vs := []) (z := (0 : Int32)) (by decide +kernel) (by decide) (by decide) (g := (mkF m 9 (la4 a1 a2 (0 : Int32) (0 : Int32)) [(.ref a1)])) rfl (hb hby d5_9) (n := 0) (by decide) (by decide) (by decide) (by decide)
 have C34 : CHr Z EL1 s.vm h0 T33.vm h33 := C0.trans (C33w)
 have sz33 : h0.size ≤ h33.size := E33.1
 have nz33 := Nat.le_trans Z0 sz33
 have lv33 := ltA lt33
 have lw33 := ltA ltb33
 have f35 : Safe Z EL1 T33.vm h33 a1 := (CHr.safe C33w (ltN (by omega)) sf_a1)
 have nx33_a1 := ne33 a1 f35
 obtain ⟨T36, X36, e36, st36⟩ := getF X33 hx hZ33 hown33 (host := "") (Or.inl (wd hw 43 rfl)) Via.refl e33 Fv33 (g := (mkF m 11 (la4 a1 a2 (0 : Int32) (0 : Int32)) [(.ref sa33), (.ref a1)])) rfl rfl (hb hby d5_11)
 have f37 : Fld Z h33 a1 kS0 "value" "[B" u1 := (Fv1.ext E33)
 have f38 : Exa Z h33 a1 kS0 := (E1.ext E33)
 obtain ⟨T39, h39, X39, e39, W39, st39⟩ := putF X36 hx hZ33 hown33 (host := "") (Or.inl (wd hw 43 rfl)) Via.refl e36 f37 f38 (Or.inr ⟨(wd hw 8 rfl), rfl, hnm⟩) (wd hw 6 rfl) (ty := (.array .byte)) (by decide) rfl rfl (g := (mkF m 14 (la4 a1 a2 (0 : Int32) (0 : Int32)) [(.ref sb33), (.ref a1)])) rfl rfl (hb hby d5_14)
 have ge40 : n0 ≤ a1 := by omega
 have N39 := Fr.snoc X39 N0 ge40
 have C41 : CHr Z EL1 s.vm h0 T33.vm h39 := C34.trans (CHr.wr W39 f35 C34.1)
 have sz39 : h33.size ≤ h39.size := Nat.le_of_eq W39.size.symm
 have nz39 := Nat.le_trans nz33 sz39
 have f39 : Fld Z h39 a1 kS0 "value" "[B" (.ref sb33) := f37.same W39
 obtain ⟨sa42, T42, h42, kk42, sb42, sk42, X42, e42, E42, hS42, hk42, hZ42, hown42, A42, Fc42, Fv42, V42, lt42, ltb42, C42w, Lt42, ne42, st42⟩ := ldcCH X39 hx hZ33 hown33 (wd hw 118 rfl) (own_wS hw) e39 hS33 (by omega) (own_EW hw) (by decide) C41.1 (vs := []) (z := (0 : Int32)) (by decide +kernel) (by decide) (by decide) (g := (mkF m 18 (la4 a1 a2 (0 : Int32) (0 : Int32)) [(.ref a1)])) rfl (hb hby d5_18) (n := 0) (by decide) (by decide) (by decide) (by decide)
 have C43 : CHr Z EL1 s.vm h0 T42.vm h42 := C41.trans (C42w)
 have sz42 : h39.size ≤ h42.size := E42.1
 have nz42 := Nat.le_trans nz39 sz42
 have lv42 := ltA lt42
 have lw42 := ltA ltb42
 have f44 : Safe Z EL1 T42.vm h42 a1 := (CHr.safe C42w (ltN (by omega)) (Safe.wr W39 f35 C34.1 f35))
 have nx42_a1 := ne42 a1 f44
 obtain ⟨T45, X45, e45, st45⟩ := getF X42 hx hZ42 hown42 (host := "") (Or.inl (wd hw 42 rfl)) Via.refl e42 Fc42 (g := (mkF m 20 (la4 a1 a2 (0 : Int32) (0 : Int32)) [(.ref sa42), (.ref a1)])) rfl rfl (hb hby d5_20)
 have f46 : Fld Z h42 a1 kS0 "coder" "B" u2 := (((Fc1.ext E33).other W39 (Or.inr (slot_ne (Or.inr (wd hw 9 rfl)) (Or.inr (wd hw 8 rfl)) (by decide) (t := .byte) (t' := (.array .byte)) (by decide) (by decide)))).ext E42)
 have f47 : Exa Z h42 a1 kS0 := ((f38.wr W39).ext E42)
 obtain ⟨T48, h48, X48, e48, W48, st48⟩ := putFN X45 hx hZ42 hown42 (wd hw 42 rfl) Via.refl e45 f46 f47 (Or.inr ⟨(wd hw 9 rfl), rfl, hnm⟩) (wd hw 6 rfl) (ty := .byte) (v' := (.int 0)) (by decide) rfl rfl (g := (mkF m 23 (la4 a1 a2 (0 : Int32) (0 : Int32)) [(.int 0), (.ref a1)])) rfl rfl (hb hby d5_23)
 have N48 := Fr.snoc X48 N39 ge40
 have C49 : CHr Z EL1 s.vm h0 T42.vm h48 := C43.trans (CHr.wr W48 f44 C43.1)
 have sz48 : h42.size ≤ h48.size := Nat.le_of_eq W48.size.symm
 have nz48 := Nat.le_trans nz42 sz48
 have f48 : Fld Z h48 a1 kS0 "coder" "B" (.int 0) := f46.same W48
 have f50 : Exa Z h48 a1 kS0 := (f47.wr W48)
 have f51 : Fld Z h48 a1 kS0 "value" "[B" (.ref sb33) := ((f39.ext E42).other W48 (Or.inr (slot_ne (Or.inr (wd hw 8 rfl)) (Or.inr (wd hw 9 rfl)) (by decide) (t := (.array .byte)) (t' := .byte) (by decide) (by decide))))
 have f52 : Arv Z h48 sb33 sk33 .byte (0 : Int32) [] (.int 0) := (((V33.other W39 (Ne.symm nx33_a1.2)).ext E42).other W48 (Ne.symm nx33_a1.2))
 obtain ⟨fs, hr, hrun, hended, hE⟩ := X48.leaveW hS42 (by rw [e48]; omega) (v := none) (fun _ => rfl)
 have CE := C49.trans (CHv.at X48 hZ42 (own_EW hw) C49.1)
 refine ⟨_, _, pre0 _ ?_, hrun, hended, _, _, rfl, ?_, ?_, ⟨hE.1, hE.2.1, hE.2.2.1, hE.2.2.2.mono (by decide) (by decide)⟩⟩
 ·show GO p e below s₁ (mkF m 0 (la4 a1 a2 (0 : Int32) (0 : Int32)) []) _
  refine XS.aloadN X0.here hx rfl (hb hby d5_0) rfl rfl ?_
  show GO p e below s₁ (mkF m 1 (la4 a1 a2 (0 : Int32) (0 : Int32)) [(.ref a1)]) _
  refine st32 _ ?_
  show GO p e below T32 (mkF m 4 (la4 a1 a2 (0 : Int32) (0 : Int32)) []) _
  refine XS.iloadN X32.here hx rfl (hb hby d5_4) rfl ?_
  show GO p e below T32 (mkF m 5 (la4 a1 a2 (0 : Int32) (0 : Int32)) [(.int 0)]) _
  refine XS.ifNo X32.here hx rfl (hb hby d5_5) rfl ((if0 _ _).trans (teq (rfl : (0 : Int32) = (0 : Int32))).2) ?_
  show GO p e below T32 (mkF m 8 (la4 a1 a2 (0 : Int32) (0 : Int32)) []) _
  refine XS.aloadN X32.here hx rfl (hb hby d5_8) rfl rfl ?_
  show GO p e below T32 (mkF m 9 (la4 a1 a2 (0 : Int32) (0 : Int32)) [(.ref a1)]) _
  refine st33 _ ?_
  show GO p e below T33 (mkF m 11 (la4 a1 a2 (0 : Int32) (0 : Int32)) [(.ref sa33), (.ref a1)]) _
  refine st36 _ ?_
  show GO p e below T36 (mkF m 14 (la4 a1 a2 (0 : Int32) (0 : Int32)) [(.ref sb33), (.ref a1)]) _
  refine st39 _ ?_
  show GO p e below T39 (mkF m 17 (la4 a1 a2 (0 : Int32) (0 : Int32)) []) _
  refine XS.aloadN X39.here hx rfl (hb hby d5_17) rfl rfl ?_
  show GO p e below T39 (mkF m 18 (la4 a1 a2 (0 : Int32) (0 : Int32)) [(.ref a1)]) _
  refine st42 _ ?_
  show GO p e below T42 (mkF m 20 (la4 a1 a2 (0 : Int32) (0 : Int32)) [(.ref sa42), (.ref a1)]) _
  refine st45 _ ?_
  show GO p e below T45 (mkF m 23 (la4 a1 a2 (0 : Int32) (0 : Int32)) [(.int 0), (.ref a1)]) _
  refine st48 _ ?_
  show GO p e below T48 (mkF m 26 (la4 a1 a2 (0 : Int32) (0 : Int32)) []) _
  exact X48.returnOut hx Bd.returns (hb hby d5_26) hr
 ·show Qrm_si0 Z a1 a2 u1 u2 h0 n0 _ T48.heap _
  rw [e48]
  exact ⟨sb33, sk33, rfl, N48, (((((Keep.refl h0 [a1]).ext E33).wr W39 (Or.inl (List.mem_of_getElem? (i := 0) rfl))).ext E42).wr W48 (Or.inl (List.mem_of_getElem? (i := 0) rfl))), f50, f48, f51, f52⟩
 ·show CHr Z EL1 s.vm s.heap T48.vm T48.heap
  rw [hh, e48]
  exact CE
def Qrm_si (Z : State) (a1 : Addr) (a2 : Addr) (u1 : Value) (u2 : Value) (k2 : ClassId) (v2 : List Value) (h0 : Heap) (n0 : Nat) (v : Option Value) (h : Heap) (L : List Loc) : Prop := ∃ t : Addr, ∃ k : ClassId, v = none ∧ Fr n0 L ∧ Keep h0 h [a1] ∧ Exa Z h a1 kS0 ∧ Fld Z h a1 kS0 "coder" "B" (.int 0) ∧ Fld Z h a1 kS0 "value" "[B" (.ref t) ∧ Arv Z h t k .byte (0 : Int32) [] (.int 0)
theorem ef_rm_si (m : MethodId) (x0 : Addr) (x1 : Addr) : entryFrame m #[(.ref x0), (.ref x1)] 2 = mkF m 0 #[.val (.ref x0), .val (.ref x1)] [] := by first | rfl | (simp [entryFrame, mkF, argsToLocals, Value.category]; done)
theorem rm_si (l : Launch) (Z : State) (a0 : Array Value) (hw : HW Z a0) (ws : List Jvm.Cond) (a1 : Addr) (a2 : Addr) (u1 : Value) (u2 : Value) (k2 : ClassId) (v2 : List Value) (h0 : Heap) (n0 : Nat) (Z0 : n0 ≤ h0.size) (E1 : Exa Z h0 a1 kS0) (Fv1 : Fld Z h0 a1 kS0 "value" "[B" u1) (Fc1 : Fld Z h0 a1 kS0 "coder" "B" u2) (V2 : Arv Z h0 a2 k2 .char (0 : Int32) v2 (.int 0)) (g1 : n0 ≤ a1) :
  OwnW l Z h0 (⟨kS0, "<init>", "([C)V"⟩ : MethodName) (Jvm.Cond.code (⟨kS0, "<init>", "([C)V"⟩ : MethodName) jdk_42_method_3_code 2 none :: ws) (RM 2 4 8 29) #[(.ref a1), (.ref a2)] [a1] (Qrm_si Z a1 a2 u1 u2 k2 v2 h0 n0) := by
 refine MetFree.of_bodySF (plainFor_of_name pn_1) hisR ?_
 intro p e s m args below meth c s₁ Bd hml0 hP hK
 obtain ⟨rfl, hZ, hh, H0, sf⟩ := hP
 have hx := Bd.exec
 have hby := Bd.bytes
 have hml : c.maxLocals = 2 := hml0
 have hown : s.vm.findClass kS0 = some m.cls := findClass_of_methodNamed Bd.named
 have hnm := (name_of_methodNamed Bd.named Bd.method).1
 have X0 : Stand p l e (RM 2 4 8 29) (s.setVm s.vm) m #[(.ref a1), (.ref a2)] below meth c s₁ [] 0 0 := Stand.of_body Bd
 have hS0 : s.Since s.vm h0.size := (State.WarmedH.refl s).since _
 have C0 : CHr Z EL1 s.vm h0 s.vm h0 := CHr.refl H0
 have sf_a1 : Safe Z EL1 s.vm h0 a1 := sf _ (List.mem_of_getElem? (i := 0) rfl)
 have e0 : s₁.heap = h0 := by rw [← hh, Bd.state]; rfl
 have N0 := Fr.nil n0
 have pre0 : ∀ t, GO p e below s₁ (mkF m 0 #[.val (.ref a1), .val (.ref a2)] []) t → GO p e below s₁ (entryFrame m #[(.ref a1), (.ref a2)] 2) t := fun t k => castTop (ef_rm_si m a1 a2) k
 have lt_E1 := ltA E1.lt
 have lt_Fv1 := ltA Fv1.lt
 have lt_Fc1 := ltA Fc1.lt
 have lt_V2 := ltA V2.lt
 obtain ⟨cl53, Ar53, -, S53, M53, -, -⟩ := id V2
 -- pc 6: String.<init> by rm_si0
 obtain ⟨_, _, ⟨T54, L54, k54, n54⟩, -, X54w, hS54w, gr54, ⟨Lc54, hQ54, l54, y54, z54, C54w⟩, st54⟩ := X0.specialBackS hx (y := (⟨kS0, "<init>", "([CIILjava/lang/Void;)V"⟩ : MethodName)) rfl hown (mvT hZ (wd hw 24 rfl)) (mvT hZ (wd hw 25 rfl)) (mvT hZ (wd hw 27 rfl)) (by decide) (own_backS (W := 0) (rm_si0 l Z a0 hw [] a1 a2 u1 u2 h0 n0 Z0 E1 Fv1 Fc1 (by first | assumption | decide | omega)) hZ (wd hw 27 rfl) (wd hw 5 rfl) (by decide) (by decide) (own_EW hw) C0.1 (sfS sf_a1 sf0) (allS (ltN (by omega)) all0)) (g := (mkF m 6 #[.val (.ref a1), .val (.ref a2)] [.null, (.int 0), (.int 0), (.ref a2), (.ref a1)])) rfl (by rw [hml]; rfl) (Steps.refl _) (a := a1) (argsL := [(.ref a2), (.int 0), (.int 0), .null]) (rest := []) (lenOf pd_3 rfl) rfl (wz rfl) (hb hby d4_6) (fun _ _ => ⟨rfl, e0, (by decide : 0 + 4 ≤ _), (by decide : 0 + 8 ≤ _)⟩)
 dsimp only [Pt.U, Pt.locs, Pt.cells, Pt.slots] at X54w hS54w gr54 l54 y54 z54 st54 hQ54 C54w
 rw [l54, y54, z54] at X54w
 obtain ⟨X54, hS54, hZ54, hown54⟩ := rebS hS0 (by rw [e0]; omega) X54w hS54w gr54 hZ hown
 obtain ⟨h54, e54⟩ : ∃ z, T54.heap = z := ⟨_, rfl⟩
 rw [e54] at hQ54
 obtain ⟨t_54, k_54, rfl, N54q, K54, p54_0, p54_1, p54_2, p54_3⟩ := hQ54
 have N54 := Fr.app N0 N54q
 rw [e54] at C54w hS54
 have hk54 : h54.size ≤ h54.size := Nat.le_refl _
 have C55 : CHr Z EL1 s.vm h0 T54.vm h54 := C0.trans (C54w)
 have sz54 : h0.size ≤ h54.size := K54.1
 have nz54 := Nat.le_trans Z0 sz54
 have lt54_0 := ltA p54_0.lt
 have lt54_3 := ltA p54_3.lt
 obtain ⟨fs, hr, hrun, hended, hE⟩ := X54.leaveW hS54 (by rw [e54]; omega) (v := none) (fun _ => rfl)
 have CE := C55.trans (CHv.at X54 hZ54 (own_EW hw) C55.1)
 refine ⟨_, _, pre0 _ ?_, hrun, hended, _, _, rfl, ?_, ?_, ⟨hE.1, hE.2.1, hE.2.2.1, hE.2.2.2.mono (by decide) (by decide)⟩⟩
 ·show GO p e below s₁ (mkF m 0 #[.val (.ref a1), .val (.ref a2)] []) _
  refine XS.aloadN X0.here hx rfl (hb hby d4_0) rfl rfl ?_
  show GO p e below s₁ (mkF m 1 #[.val (.ref a1), .val (.ref a2)] [(.ref a1)]) _
  refine XS.aloadN X0.here hx rfl (hb hby d4_1) rfl rfl ?_
  show GO p e below s₁ (mkF m 2 #[.val (.ref a1), .val (.ref a2)] [(.ref a2), (.ref a1)]) _
  refine XS.iconst X0.here hx rfl (hb hby d4_2) ?_
  show GO p e below s₁ (mkF m 3 #[.val (.ref a1), .val (.ref a2)] [(.int 0), (.ref a2), (.ref a1)]) _
  refine XS.aloadN X0.here hx rfl (hb hby d4_3) rfl rfl ?_
  show GO p e below s₁ (mkF m 4 #[.val (.ref a1), .val (.ref a2)] [(.ref a2), (.int 0), (.ref a2), (.ref a1)]) _
  refine X0.arraylength hx (by rw [e0]; exact Ar53.1) (State.isArrayOf_alike hZ.alike Ar53.2.1) (g := (mkF m 4 #[.val (.ref a1), .val (.ref a2)] [(.ref a2), (.int 0), (.ref a2), (.ref a1)])) rfl rfl (hb hby d4_4) _ ?_
  rw [len_of S53 M53]
  show GO p e below s₁ (mkF m 5 #[.val (.ref a1), .val (.ref a2)] [(.int 0), (.int 0), (.ref a2), (.ref a1)]) _
  refine XS.aconstNull X0.here hx rfl (hb hby d4_5) ?_
  show GO p e below s₁ (mkF m 6 #[.val (.ref a1), .val (.ref a2)] [.null, (.int 0), (.int 0), (.ref a2), (.ref a1)]) _
  refine st54.trans ?_
  show GO p e below T54 (mkF m 9 #[.val (.ref a1), .val (.ref a2)] []) _
  exact X54.returnOut hx Bd.returns (hb hby d4_9) hr
 ·show Qrm_si Z a1 a2 u1 u2 k2 v2 h0 n0 _ T54.heap _
  rw [e54]
  exact ⟨t_54, k_54, rfl, N54, ((Keep.refl h0 [a1]).trans K54 (allS (P := fun x => x ∈ _ ∨ _) (Or.inl (List.mem_of_getElem? (i := 0) rfl)) all0)), p54_0, p54_1, p54_2, p54_3⟩
 ·show CHr Z EL1 s.vm s.heap T54.vm T54.heap
  rw [hh, e54]
  exact CE
def Qrm_val (Z : State) (va : Addr) (u0 : Addr) (u1 : Addr) (u2 : Addr) (u3 : Addr) (w0 : Addr) (w1 : Addr) (w2 : Addr) (w3 : Addr) (y0 : Addr) (y1 : Addr) (y2 : Addr) (y3 : Addr) (kV : ClassId) (b0 : ClassId) (b1 : ClassId) (b2 : ClassId) (b3 : ClassId) (h0 : Heap) (n0 : Nat) (v : Option Value) (h : Heap) (L : List Loc) : Prop := ∃ bb : Addr, v = some (.ref bb) ∧ Fr n0 L ∧ Keep h0 h [] ∧ Arv Z h bb kV (.object "com/example/rolegrant/rolegrant/policy/Kind") (4 : Int32) [(.ref u0), (.ref u1), (.ref u2), (.ref u3)] .null
theorem ef_rm_val (m : MethodId)  : entryFrame m #[] 0 = mkF m 0 #[] [] := by first | rfl | (simp [entryFrame, mkF, argsToLocals, Value.category]; done)
theorem rm_val (l : Launch) (Z : State) (a0 : Array Value) (hw : HW Z a0) (ws : List Jvm.Cond) (va : Addr) (u0 : Addr) (u1 : Addr) (u2 : Addr) (u3 : Addr) (w0 : Addr) (w1 : Addr) (w2 : Addr) (w3 : Addr) (y0 : Addr) (y1 : Addr) (y2 : Addr) (y3 : Addr) (kV : ClassId) (b0 : ClassId) (b1 : ClassId) (b2 : ClassId) (b3 : ClassId) (h0 : Heap) (n0 : Nat) (Z0 : n0 ≤ h0.size) (O0 : Old Z n0 h0) (HK : OwnK Z va u0 u1 u2 u3 w0 w1 w2 w3 y0 y1 y2 y3 kV b0 b1 b2 b3) :
  OwnM l Z h0 (⟨"com/example/rolegrant/rolegrant/policy/Kind", "values", "()[Lcom/example/rolegrant/rolegrant/policy/Kind;"⟩ : MethodName) (Jvm.Cond.code (⟨"com/example/rolegrant/rolegrant/policy/Kind", "values", "()[Lcom/example/rolegrant/rolegrant/policy/Kind;"⟩ : MethodName) prog_58_method_1_code 0 (some (.array (.object "com/example/rolegrant/rolegrant/policy/Kind"))) :: ws) (RM 1 1 4 14) #[] (Qrm_val Z va u0 u1 u2 u3 w0 w1 w2 w3 y0 y1 y2 y3 kV b0 b1 b2 b3 h0 n0) := by
 refine MetFree.of_bodySF (plainFor_of_name pn_2) hisR ?_
 intro p e s m args below meth c s₁ Bd hml0 hP hK
 obtain ⟨rfl, hZ, hh⟩ := hP
 have hx := Bd.exec
 have hby := Bd.bytes
 have hml : c.maxLocals = 0 := hml0
 have hown : s.vm.findClass "com/example/rolegrant/rolegrant/policy/Kind" = some m.cls := findClass_of_methodNamed Bd.named
 have hnm := (name_of_methodNamed Bd.named Bd.method).1
 have X0 : Stand p l e (RM 1 1 4 14) s m #[] below meth c s₁ [] 0 0 := Stand.of_body Bd
 have e0 : s₁.heap = h0 := by rw [← hh, Bd.state]; rfl
 have N0 := Fr.nil n0
 have pre0 : ∀ t, GO p e below s₁ (mkF m 0 #[] []) t → GO p e below s₁ (entryFrame m #[] 0) t := fun t k => castTop (ef_rm_val m ) k
 obtain ⟨SZv, SZe, SZa, SZs0, SZw0, SZx0, SZc0, SZy0, SZb0, SZs1, SZw1, SZx1, SZc1, SZy1, SZb1, SZs2, SZw2, SZx2, SZc2, SZy2, SZb2, SZs3, SZw3, SZx3, SZc3, SZy3, SZb3⟩ := id HK
 have S56 : Sta Z h0 "com/example/rolegrant/rolegrant/policy/Kind" "$VALUES" "[Lcom/example/rolegrant/rolegrant/policy/Kind;" (.ref va) := SZv.ext O0.2
 obtain ⟨T57, X57, e57, st57⟩ := getS2 X0 hx hZ hown (host := "") (Or.inl (wd hw 51 rfl)) Via.refl e0 S56 (g := (mkF m 0 #[] [])) rfl (hb hby d11_0)
 have S58 : Arv Z h0 va kV (.object "com/example/rolegrant/rolegrant/policy/Kind") (4 : Int32) [(.ref u0), (.ref u1), (.ref u2), (.ref u3)] .null := SZa.ext O0.2
 have S59 : Exa Z h0 va "[Lcom/example/rolegrant/rolegrant/policy/Kind;" := SZe.ext O0.2
 obtain ⟨T60, h60, X60, e60, E60, A60, D60, st60⟩ := cloneH X57 hx hZ hown (wd hw 53 rfl) (wd hw 54 rfl) (wd hw 58 rfl) (wd hw 56 rfl) (wd hw 57 rfl) (wd hw 59 rfl) e57 (Arv.arh S58) S59 (g := (mkF m 3 #[] [(.ref va)])) rfl (by rw [hml]; rfl) rfl (hb hby d11_3) (by decide) (W := 0) (cap := 4) (wz rfl) (by decide) (by decide) (by decide) (by decide)
 obtain ⟨b60, g60⟩ : ∃ z, z = h0.size := ⟨_, rfl⟩
 rw [← g60] at A60 D60 st60
 have sz60 : h0.size ≤ h60.size := E60.1
 have nz60 := Nat.le_trans Z0 sz60
 have V60 : Arv Z h60 b60 kV (.object "com/example/rolegrant/rolegrant/policy/Kind") (4 : Int32) [(.ref u0), (.ref u1), (.ref u2), (.ref u3)] .null := own_arv A60
 have lt60 := ltA V60.lt
 obtain ⟨T61, X61, e61, st61⟩ := castY X60 hx hZ hown (wd hw 65 rfl) e60 (Ins.self D60) (g := (mkF m 6 #[] [(.ref b60)])) rfl rfl (hb hby d11_6)
 obtain ⟨fs, hr, hrun, hended, hW, hsame⟩ := X61.leave (v := some (.ref b60)) (fun h => by rw [Bd.returns] at h; cases h)
 refine ⟨_, _, pre0 _ ?_, hrun, hended, _, _, rfl, ?_, ⟨_, rfl⟩, hW, hsame.mono (by decide) (by decide)⟩
 ·show GO p e below s₁ (mkF m 0 #[] []) _
  refine st57 _ ?_
  show GO p e below T57 (mkF m 3 #[] [(.ref va)]) _
  refine st60 _ ?_
  show GO p e below T60 (mkF m 6 #[] [(.ref b60)]) _
  refine st61 _ ?_
  show GO p e below T61 (mkF m 9 #[] [(.ref b60)]) _
  exact retOut X61 hx Bd.returns rfl (Or.inr (Or.inr (Or.inr (Or.inr ⟨rfl, rfl, rfl⟩)))) (hb hby d11_9) hr
 ·show Qrm_val Z va u0 u1 u2 u3 w0 w1 w2 w3 y0 y1 y2 y3 kV b0 b1 b2 b3 h0 n0 _ T61.heap _
  rw [e61]
  exact ⟨b60, rfl, N0, ((Keep.refl h0 []).ext E60), V60⟩
def Qrm_named (Z : State) (x1 : Addr) (t1 : Addr) (k1 : ClassId) (N1 : Int32) (vs1 : List Value) (cs1 : List Int32) (z0 : Int32) (va : Addr) (u0 : Addr) (u1 : Addr) (u2 : Addr) (u3 : Addr) (w0 : Addr) (w1 : Addr) (w2 : Addr) (w3 : Addr) (y0 : Addr) (y1 : Addr) (y2 : Addr) (y3 : Addr) (kV : ClassId) (b0 : ClassId) (b1 : ClassId) (b2 : ClassId) (b3 : ClassId) (h0 : Heap) (n0 : Nat) (v : Option Value) (h : Heap) (L : List Loc) : Prop := v = some (own_pick cs1 u0 u1 u2 u3) ∧ Fr n0 L ∧ Keep h0 h []
theorem ef_rm_named (m : MethodId) (x0 : Addr) : entryFrame m #[(.ref x0)] 5 = mkF m 0 (la5 x0) [] := by first | rfl | (simp [entryFrame, mkF, argsToLocals, Value.category]; done)
theorem rm_named (l : Launch) (Z : State) (a0 : Array Value) (hw : HW Z a0) (ws : List Jvm.Cond) (x1 : Addr) (t1 : Addr) (k1 : ClassId) (N1 : Int32) (vs1 : List Value) (cs1 : List Int32) (z0 : Int32) (va : Addr) (u0 : Addr) (u1 : Addr) (u2 : Addr) (u3 : Addr) (w0 : Addr) (w1 : Addr) (w2 : Addr) (w3 : Addr) (y0 : Addr) (y1 : Addr) (y2 : Addr) (y3 : Addr) (kV : ClassId) (b0 : ClassId) (b1 : ClassId) (b2 : ClassId) (b3 : ClassId) (h0 : Heap) (n0 : Nat) (Z0 : n0 ≤ h0.size) (O0 : Old Z n0 h0) (Es1 : Exa Z h0 x1 kS0) (Fc1 : Fld Z h0 x1 kS0 "coder" "B" (.int 0)) (Fv1 : Fld Z h0 x1 kS0 "value" "[B" (.ref t1)) (Vs1 : Arv Z h0 t1 k1 .byte N1 vs1 (.int 0)) (SZc : Sta Z Z.heap kS0 "COMPACT_STRINGS" "Z" (.int z0)) (hz0 : ¬ z0 = 0) (hcd1 : StrChars.Road.CodA cs1 0 N1 vs1) (hbd1 : ∀ c ∈ cs1, ¬ c < 0 ∧ ¬ (65535 : Int32) < c) (hl1 : cs1.length ≤ 4000) (HK : OwnK Z va u0 u1 u2 u3 w0 w1 w2 w3 y0 y1 y2 y3 kV b0 b1 b2 b3) :
  OwnM l Z h0 (⟨"com/example/rolegrant/rolegrant/policy/Kind", "named", kS2⟩ : MethodName) (Jvm.Cond.code (⟨"com/example/rolegrant/rolegrant/policy/Kind", "named", kS2⟩ : MethodName) prog_58_method_5_code 5 (some (.object "com/example/rolegrant/rolegrant/policy/Kind")) :: ws) (RM 2 1 4 28) #[(.ref x1)] (Qrm_named Z x1 t1 k1 N1 vs1 cs1 z0 va u0 u1 u2 u3 w0 w1 w2 w3 y0 y1 y2 y3 kV b0 b1 b2 b3 h0 n0) := by
 refine MetFree.of_bodySF (plainFor_of_name pn_2) hisR ?_
 intro p e s m args below meth c s₁ Bd hml0 hP hK
 obtain ⟨rfl, hZ, hh⟩ := hP
 have hx := Bd.exec
 have hby := Bd.bytes
 have hml : c.maxLocals = 5 := hml0
 have hown : s.vm.findClass "com/example/rolegrant/rolegrant/policy/Kind" = some m.cls := findClass_of_methodNamed Bd.named
 have hnm := (name_of_methodNamed Bd.named Bd.method).1
 have X0 : Stand p l e (RM 2 1 4 28) s m #[(.ref x1)] below meth c s₁ [] 0 0 := Stand.of_body Bd
 have e0 : s₁.heap = h0 := by rw [← hh, Bd.state]; rfl
 have N0 := Fr.nil n0
 have pre0 : ∀ t, GO p e below s₁ (mkF m 0 (la5 x1) []) t → GO p e below s₁ (entryFrame m #[(.ref x1)] 5) t := fun t k => castTop (ef_rm_named m x1) k
 have lt_Es1 := ltA Es1.lt
 have lt_Fc1 := ltA Fc1.lt
 have lt_Fv1 := ltA Fv1.lt
 have lt_Vs1 := ltA Vs1.lt
 obtain ⟨SZv, SZe, SZa, SZs0, SZw0, SZx0, SZc0, SZy0, SZb0, SZs1, SZw1, SZx1, SZc1, SZy1, SZb1, SZs2, SZw2, SZx2, SZc2, SZy2, SZb2, SZs3, SZw3, SZx3, SZc3, SZy3, SZb3⟩ := id HK
 -- pc 0: Kind.values by rm_val
 obtain ⟨_, _, ⟨T62, L62, k62, n62⟩, -, X62, ⟨Lc62, hQ62, l62, y62, z62⟩, st62⟩ := Jvm.LawKit.callS X0 hx (y := (⟨"com/example/rolegrant/rolegrant/policy/Kind", "values", "()[Lcom/example/rolegrant/rolegrant/policy/Kind;"⟩ : MethodName)) hown (mvT hZ (wd hw 48 rfl)) (mvT hZ (wd hw 49 rfl)) (mvT hZ (wd hw 46 rfl)) (mvT hZ (wd hw 50 rfl)) (by decide) (backOf (W := 0) (rm_val l Z a0 hw [] va u0 u1 u2 u3 w0 w1 w2 w3 y0 y1 y2 y3 kV b0 b1 b2 b3 h0 n0 Z0 O0 (by first | assumption | decide | omega)) hZ (wd hw 50 rfl) (wd hw 46 rfl) (by decide) (by decide)) (g := (mkF m 0 (la5 x1) [])) rfl (by rw [hml]; rfl) (argsL := []) (rest := []) (lenOf pd_4 rfl) rfl (wz rfl) (hb hby d10_0) (fun _ _ => ⟨rfl, e0, (by decide : 0 + 1 ≤ _), (by decide : 0 + 4 ≤ _)⟩)
 dsimp only [Pt.U, Pt.locs, Pt.cells, Pt.slots] at X62 l62 y62 z62 st62 hQ62
 rw [l62, y62, z62] at X62
 obtain ⟨h62, e62⟩ : ∃ z, T62.heap = z := ⟨_, rfl⟩
 rw [e62] at hQ62
 obtain ⟨bb_62, rfl, N62q, K62, p62_0⟩ := hQ62
 have N62 := Fr.app N0 N62q
 have sz62 : h0.size ≤ h62.size := K62.1
 have nz62 := Nat.le_trans Z0 sz62
 have lt62_0 := ltA p62_0.lt
 obtain ⟨cl63, Ar63, -, S63, M63, -, -⟩ := id p62_0
 obtain ⟨cl64, Ar64, q64, S64, M64, H64, G64⟩ := id p62_0
 have hin64 : ¬ ((0 : Int32) < 0 ∨ cl64.slots.size ≤ ((0 : Int32)).toNatClampNeg) := inb_of S64 ⟨by decide, by decide⟩
 have hat64 : cl64.slots[((0 : Int32)).toNatClampNeg]? = some (.ref u0) := Has.at H64 hin64 rfl
 have f65 : Old Z n0 h62 := (O0.keep K62 all0)
 have S66 : Fld Z h62 u0 "com/example/rolegrant/rolegrant/policy/Kind" "word" "Ljava/lang/String;" (.ref w0) := SZw0.ext f65.2
 obtain ⟨T67, X67, e67, st67⟩ := getF X62 hx hZ hown (host := "") (Or.inl (wd hw 67 rfl)) Via.refl e62 S66 (g := (mkF m 21 (la9 x1 bb_62 (4 : Int32) (0 : Int32) u0) [(.ref u0)])) rfl rfl (hb hby d10_21)
 have S68 : Exa Z h62 w0 kS0 := SZx0.ext f65.2
 have S69 : Fld Z h62 w0 kS0 "value" "[B" (.ref y0) := SZy0.ext f65.2
 have S70 : Fld Z h62 w0 kS0 "coder" "B" (.int 0) := SZc0.ext f65.2
 have S71 : Arv Z h62 y0 b0 .byte (4 : Int32) [(.int 117), (.int 115), (.int 101), (.int 114)] (.int 0) := SZb0.ext f65.2
 have f72 : Exa Z h62 x1 kS0 := (Es1.keep K62)
 have f73 : Fld Z h62 x1 kS0 "value" "[B" (.ref t1) := (Fv1.keep K62 nin0)
 have f74 : Fld Z h62 x1 kS0 "coder" "B" (.int 0) := (Fc1.keep K62 nin0)
 have f75 : Arv Z h62 t1 k1 .byte N1 vs1 (.int 0) := (Vs1.keep K62 nin0)
 have S76 : Sta Z h62 kS0 "COMPACT_STRINGS" "Z" (.int z0) := SZc.ext f65.2
 have S78 : Exa Z h62 w0 kS0 := SZx0.ext f65.2
 obtain ⟨cq77, kq77, q77a, q77b, q77c⟩ := isOf hZ e67 S78
 obtain ⟨v77, _, ⟨T77, L77, k77, n77⟩, -, X77, ⟨Lc77, hQ77, l77, y77, z77⟩, st77⟩ := X67.virtualBack hx (y := (⟨kS0, "equals", "(Ljava/lang/Object;)Z"⟩ : MethodName)) (z := (⟨kS0, "equals", "(Ljava/lang/Object;)Z"⟩ : MethodName)) hown (mvT hZ (wd hw 69 rfl)) (mvT hZ (wd hw 70 rfl)) (notFace_of_selects (args := #[]) (mvT hZ (wd hw 72 rfl))) (mvT hZ (wd hw 72 rfl)) (mvT hZ (wd hw 71 rfl)) (by decide) (StrChars.Road.eqW (W := 0) hZ (own_heq hw) (kI := 4) (wd hw 6 rfl) S68 S69 S70 S71 own_lcod0 own_lbd0 own_lle0 f72 f73 f74 f75 hcd1 hbd1 hl1 S76 hz0 (by decide) (by decide)) q77a q77c (g := (mkF m 25 (la9 x1 bb_62 (4 : Int32) (0 : Int32) u0) [(.ref x1), (.ref w0)])) rfl (by rw [hml]; rfl) (Steps.refl _) (argsL := [(.ref x1)]) (rest := []) (lenOf pd_5 rfl) rfl (wz rfl) (hb hby d10_25) (fun _ _ => ⟨rfl, e67, (by decide : 1 + 0 ≤ _), (by decide : 4 + 0 ≤ _)⟩)
 dsimp only [Pt.U, Pt.locs, Pt.cells, Pt.slots] at X77 l77 y77 z77 st77 hQ77
 rw [l77, y77, z77] at X77
 obtain ⟨hv77, rfl, e77⟩ := hQ77
 obtain rfl : v77 = some (.int (own_eqs own_lc0 cs1)) := by
  rcases hv77 with ⟨q, r⟩ | ⟨q, r⟩
  ·rw [q, own_eqs, if_pos r]
  ·rw [q, own_eqs, if_neg r]
 have N77 : Fr n0 _ := Fr.app N62 (Fr.nil n0)
 have pre79 : ∀ t, GO p e below T77 (mkF m 28 (la9 x1 bb_62 (4 : Int32) (0 : Int32) u0) [(.int (own_eqs own_lc0 cs1))]) t → GO p e below s₁ (entryFrame m #[(.ref x1)] 5) t := by
  intro t kt
  refine pre0 t ?_
  show GO p e below s₁ (mkF m 0 (la5 x1) []) _
  refine st62 _ ?_
  show GO p e below T62 (mkF m 3 (la5 x1) [(.ref bb_62)]) _
  refine XS.astoreN X62.here hx rfl (hb hby d10_3) rfl rfl (l' := (la6 x1 bb_62)) rfl ?_
  show GO p e below T62 (mkF m 4 (la6 x1 bb_62) []) _
  refine XS.aloadN X62.here hx rfl (hb hby d10_4) rfl rfl ?_
  show GO p e below T62 (mkF m 5 (la6 x1 bb_62) [(.ref bb_62)]) _
  refine X62.arraylength hx (by rw [e62]; exact Ar63.1) (State.isArrayOf_alike hZ.alike Ar63.2.1) (g := (mkF m 5 (la6 x1 bb_62) [(.ref bb_62)])) rfl rfl (hb hby d10_5) _ ?_
  rw [len_of S63 M63]
  show GO p e below T62 (mkF m 6 (la6 x1 bb_62) [(.int 4)]) _
  refine XS.istoreN X62.here hx rfl (hb hby d10_6) rfl (l' := (la7 x1 bb_62 (4 : Int32))) rfl ?_
  show GO p e below T62 (mkF m 7 (la7 x1 bb_62 (4 : Int32)) []) _
  refine XS.iconst X62.here hx rfl (hb hby d10_7) ?_
  show GO p e below T62 (mkF m 8 (la7 x1 bb_62 (4 : Int32)) [(.int 0)]) _
  refine XS.istoreN X62.here hx rfl (hb hby d10_8) rfl (l' := (la8 x1 bb_62 (4 : Int32) (0 : Int32))) rfl ?_
  show GO p e below T62 (mkF m 9 (la8 x1 bb_62 (4 : Int32) (0 : Int32)) []) _
  refine XS.iloadN X62.here hx rfl (hb hby d10_9) rfl ?_
  show GO p e below T62 (mkF m 10 (la8 x1 bb_62 (4 : Int32) (0 : Int32)) [(.int 0)]) _
  refine XS.iloadN X62.here hx rfl (hb hby d10_10) rfl ?_
  show GO p e below T62 (mkF m 11 (la8 x1 bb_62 (4 : Int32) (0 : Int32)) [(.int 4), (.int 0)]) _
  refine XS.icmpNo X62.here hx rfl (hb hby d10_11) rfl (tlt ((by decide) : (0 : Int32) < (4 : Int32))).2.1 ?_
  show GO p e below T62 (mkF m 14 (la8 x1 bb_62 (4 : Int32) (0 : Int32)) []) _
  refine XS.aloadN X62.here hx rfl (hb hby d10_14) rfl rfl ?_
  show GO p e below T62 (mkF m 15 (la8 x1 bb_62 (4 : Int32) (0 : Int32)) [(.ref bb_62)]) _
  refine XS.iloadN X62.here hx rfl (hb hby d10_15) rfl ?_
  show GO p e below T62 (mkF m 16 (la8 x1 bb_62 (4 : Int32) (0 : Int32)) [(.int 0), (.ref bb_62)]) _
  refine X62.aaload hx (j := (0 : Int32)) (v := (.ref u0)) (by rw [e62]; exact Ar64.1) (State.isArrayOf_alike hZ.alike Ar64.2.1) rfl Ar64.2.2 hin64 hat64 (g := (mkF m 16 (la8 x1 bb_62 (4 : Int32) (0 : Int32)) [(.int 0), (.ref bb_62)])) rfl rfl (hb hby d10_16) _ ?_
  show GO p e below T62 (mkF m 17 (la8 x1 bb_62 (4 : Int32) (0 : Int32)) [(.ref u0)]) _
  refine XS.astore X62.here hx rfl (hb hby d10_17) rfl rfl (l' := (la9 x1 bb_62 (4 : Int32) (0 : Int32) u0)) rfl ?_
  show GO p e below T62 (mkF m 19 (la9 x1 bb_62 (4 : Int32) (0 : Int32) u0) []) _
  refine XS.aload X62.here hx rfl (hb hby d10_19) rfl rfl ?_
  show GO p e below T62 (mkF m 21 (la9 x1 bb_62 (4 : Int32) (0 : Int32) u0) [(.ref u0)]) _
  refine st67 _ ?_
  show GO p e below T67 (mkF m 24 (la9 x1 bb_62 (4 : Int32) (0 : Int32) u0) [(.ref w0)]) _
  refine XS.aloadN X67.here hx rfl (hb hby d10_24) rfl rfl ?_
  show GO p e below T67 (mkF m 25 (la9 x1 bb_62 (4 : Int32) (0 : Int32) u0) [(.ref x1), (.ref w0)]) _
  refine st77.trans ?_
  exact kt
 by_cases hb80 : own_lc0 = cs1
 ·obtain ⟨fs, hr, hrun, hended, hW, hsame⟩ := X77.leave (v := some (.ref u0)) (fun h => by rw [Bd.returns] at h; cases h)
  refine ⟨_, _, pre79 _ ?_, hrun, hended, _, _, rfl, ?_, ⟨_, rfl⟩, hW, hsame.mono (by decide) (by decide)⟩
  ·show GO p e below T77 (mkF m 28 (la9 x1 bb_62 (4 : Int32) (0 : Int32) u0) [(.int (own_eqs own_lc0 cs1))]) _
   refine XS.ifNo X77.here hx rfl (hb hby d10_28) rfl ((if0 _ _).trans (feq (own_eq1 hb80 : ¬ ((own_eqs own_lc0 cs1) = (0 : Int32)))).1) ?_
   show GO p e below T77 (mkF m 31 (la9 x1 bb_62 (4 : Int32) (0 : Int32) u0) []) _
   refine XS.aload X77.here hx rfl (hb hby d10_31) rfl rfl ?_
   show GO p e below T77 (mkF m 33 (la9 x1 bb_62 (4 : Int32) (0 : Int32) u0) [(.ref u0)]) _
   exact retOut X77 hx Bd.returns rfl (Or.inr (Or.inr (Or.inr (Or.inr ⟨rfl, rfl, rfl⟩)))) (hb hby d10_33) hr
  ·show Qrm_named Z x1 t1 k1 N1 vs1 cs1 z0 va u0 u1 u2 u3 w0 w1 w2 w3 y0 y1 y2 y3 kV b0 b1 b2 b3 h0 n0 _ T77.heap _
   rw [e77]
   exact ⟨(by simp only [own_pick, if_pos hb80.symm]), N77, ((Keep.refl h0 []).trans K62 all0)⟩
 ·obtain ⟨cl81, Ar81, q81, S81, M81, H81, G81⟩ := id p62_0
  have hin81 : ¬ ((1 : Int32) < 0 ∨ cl81.slots.size ≤ ((1 : Int32)).toNatClampNeg) := inb_of S81 ⟨by decide, by decide⟩
  have hat81 : cl81.slots[((1 : Int32)).toNatClampNeg]? = some (.ref u1) := Has.at H81 hin81 rfl
  have S82 : Fld Z h62 u1 "com/example/rolegrant/rolegrant/policy/Kind" "word" "Ljava/lang/String;" (.ref w1) := SZw1.ext f65.2
  obtain ⟨T83, X83, e83, st83⟩ := getF X77 hx hZ hown (host := "") (Or.inl (wd hw 67 rfl)) Via.refl e77 S82 (g := (mkF m 21 (la9 x1 bb_62 (4 : Int32) (1 : Int32) u1) [(.ref u1)])) rfl rfl (hb hby d10_21)
  have S84 : Exa Z h62 w1 kS0 := SZx1.ext f65.2
  have S85 : Fld Z h62 w1 kS0 "value" "[B" (.ref y1) := SZy1.ext f65.2
  have S86 : Fld Z h62 w1 kS0 "coder" "B" (.int 0) := SZc1.ext f65.2
  have S87 : Arv Z h62 y1 b1 .byte (5 : Int32) [(.int 103), (.int 114), (.int 111), (.int 117), (.int 112)] (.int 0) := SZb1.ext f65.2
  have S88 : Sta Z h62 kS0 "COMPACT_STRINGS" "Z" (.int z0) := SZc.ext f65.2
  have S90 : Exa Z h62 w1 kS0 := SZx1.ext f65.2
  obtain ⟨cq89, kq89, q89a, q89b, q89c⟩ := isOf hZ e83 S90
  obtain ⟨v89, _, ⟨T89, L89, k89, n89⟩, -, X89, ⟨Lc89, hQ89, l89, y89, z89⟩, st89⟩ := X83.virtualBack hx (y := (⟨kS0, "equals", "(Ljava/lang/Object;)Z"⟩ : MethodName)) (z := (⟨kS0, "equals", "(Ljava/lang/Object;)Z"⟩ : MethodName)) hown (mvT hZ (wd hw 69 rfl)) (mvT hZ (wd hw 70 rfl)) (notFace_of_selects (args := #[]) (mvT hZ (wd hw 72 rfl))) (mvT hZ (wd hw 72 rfl)) (mvT hZ (wd hw 71 rfl)) (by decide) (StrChars.Road.eqW (W := 0) hZ (own_heq hw) (kI := 4) (wd hw 6 rfl) S84 S85 S86 S87 own_lcod1 own_lbd1 own_lle1 f72 f73 f74 f75 hcd1 hbd1 hl1 S88 hz0 (by decide) (by decide)) q89a q89c (g := (mkF m 25 (la9 x1 bb_62 (4 : Int32) (1 : Int32) u1) [(.ref x1), (.ref w1)])) rfl (by rw [hml]; rfl) (Steps.refl _) (argsL := [(.ref x1)]) (rest := []) (lenOf pd_5 rfl) rfl (wz rfl) (hb hby d10_25) (fun _ _ => ⟨rfl, e83, (by decide : 1 + 0 ≤ _), (by decide : 4 + 0 ≤ _)⟩)
  dsimp only [Pt.U, Pt.locs, Pt.cells, Pt.slots] at X89 l89 y89 z89 st89 hQ89
  rw [l89, y89, z89] at X89
  obtain ⟨hv89, rfl, e89⟩ := hQ89
  obtain rfl : v89 = some (.int (own_eqs own_lc1 cs1)) := by
   rcases hv89 with ⟨q, r⟩ | ⟨q, r⟩
   ·rw [q, own_eqs, if_pos r]
   ·rw [q, own_eqs, if_neg r]
  have N89 : Fr n0 _ := Fr.app N77 (Fr.nil n0)
  have pre91 : ∀ t, GO p e below T89 (mkF m 28 (la9 x1 bb_62 (4 : Int32) (1 : Int32) u1) [(.int (own_eqs own_lc1 cs1))]) t → GO p e below s₁ (entryFrame m #[(.ref x1)] 5) t := by
   intro t kt
   refine pre79 t ?_
   show GO p e below T77 (mkF m 28 (la9 x1 bb_62 (4 : Int32) (0 : Int32) u0) [(.int (own_eqs own_lc0 cs1))]) _
   refine XS.ifYes X77.here hx rfl (pc0 := 28) (pc' := 34) rfl (hb hby d10_28) rfl ((if0 _ _).trans (teq (own_eq0 hb80 : (own_eqs own_lc0 cs1) = (0 : Int32))).1) (by decide) (by decide) ?_
   show GO p e below T77 (mkF m 34 (la9 x1 bb_62 (4 : Int32) (0 : Int32) u0) []) _
   refine XS.iinc X77.here hx rfl (hb hby d10_34) rfl (l' := (la9 x1 bb_62 (4 : Int32) ((0 : Int32) + (1 : Int32)) u0)) rfl ?_
   rw [show ((0 : Int32) + (1 : Int32)) = (1 : Int32) from by decide]
   show GO p e below T77 (mkF m 37 (la9 x1 bb_62 (4 : Int32) (1 : Int32) u0) []) _
   refine XS.goto X77.here hx rfl (pc0 := 37) (pc' := 9) rfl (hb hby d10_37) (by decide) (by decide) ?_
   show GO p e below T77 (mkF m 9 (la9 x1 bb_62 (4 : Int32) (1 : Int32) u0) []) _
   refine XS.iloadN X77.here hx rfl (hb hby d10_9) rfl ?_
   show GO p e below T77 (mkF m 10 (la9 x1 bb_62 (4 : Int32) (1 : Int32) u0) [(.int 1)]) _
   refine XS.iloadN X77.here hx rfl (hb hby d10_10) rfl ?_
   show GO p e below T77 (mkF m 11 (la9 x1 bb_62 (4 : Int32) (1 : Int32) u0) [(.int 4), (.int 1)]) _
   refine XS.icmpNo X77.here hx rfl (hb hby d10_11) rfl (tlt ((by decide) : (1 : Int32) < (4 : Int32))).2.1 ?_
   show GO p e below T77 (mkF m 14 (la9 x1 bb_62 (4 : Int32) (1 : Int32) u0) []) _
   refine XS.aloadN X77.here hx rfl (hb hby d10_14) rfl rfl ?_
   show GO p e below T77 (mkF m 15 (la9 x1 bb_62 (4 : Int32) (1 : Int32) u0) [(.ref bb_62)]) _
   refine XS.iloadN X77.here hx rfl (hb hby d10_15) rfl ?_
   show GO p e below T77 (mkF m 16 (la9 x1 bb_62 (4 : Int32) (1 : Int32) u0) [(.int 1), (.ref bb_62)]) _
   refine X77.aaload hx (j := (1 : Int32)) (v := (.ref u1)) (by rw [e77]; exact Ar81.1) (State.isArrayOf_alike hZ.alike Ar81.2.1) rfl Ar81.2.2 hin81 hat81 (g := (mkF m 16 (la9 x1 bb_62 (4 : Int32) (1 : Int32) u0) [(.int 1), (.ref bb_62)])) rfl rfl (hb hby d10_16) _ ?_
   show GO p e below T77 (mkF m 17 (la9 x1 bb_62 (4 : Int32) (1 : Int32) u0) [(.ref u1)]) _
   refine XS.astore X77.here hx rfl (hb hby d10_17) rfl rfl (l' := (la9 x1 bb_62 (4 : Int32) (1 : Int32) u1)) rfl ?_
   show GO p e below T77 (mkF m 19 (la9 x1 bb_62 (4 : Int32) (1 : Int32) u1) []) _
   refine XS.aload X77.here hx rfl (hb hby d10_19) rfl rfl ?_
   show GO p e below T77 (mkF m 21 (la9 x1 bb_62 (4 : Int32) (1 : Int32) u1) [(.ref u1)]) _
   refine st83 _ ?_
   show GO p e below T83 (mkF m 24 (la9 x1 bb_62 (4 : Int32) (1 : Int32) u1) [(.ref w1)]) _
   refine XS.aloadN X83.here hx rfl (hb hby d10_24) rfl rfl ?_
   show GO p e below T83 (mkF m 25 (la9 x1 bb_62 (4 : Int32) (1 : Int32) u1) [(.ref x1), (.ref w1)]) _
   refine st89.trans ?_
   exact kt
  by_cases hb92 : own_lc1 = cs1
  ·obtain ⟨fs, hr, hrun, hended, hW, hsame⟩ := X89.leave (v := some (.ref u1)) (fun h => by rw [Bd.returns] at h; cases h)
   refine ⟨_, _, pre91 _ ?_, hrun, hended, _, _, rfl, ?_, ⟨_, rfl⟩, hW, hsame.mono (by decide) (by decide)⟩
   ·show GO p e below T89 (mkF m 28 (la9 x1 bb_62 (4 : Int32) (1 : Int32) u1) [(.int (own_eqs own_lc1 cs1))]) _
    refine XS.ifNo X89.here hx rfl (hb hby d10_28) rfl ((if0 _ _).trans (feq (own_eq1 hb92 : ¬ ((own_eqs own_lc1 cs1) = (0 : Int32)))).1) ?_
    show GO p e below T89 (mkF m 31 (la9 x1 bb_62 (4 : Int32) (1 : Int32) u1) []) _
    refine XS.aload X89.here hx rfl (hb hby d10_31) rfl rfl ?_
    show GO p e below T89 (mkF m 33 (la9 x1 bb_62 (4 : Int32) (1 : Int32) u1) [(.ref u1)]) _
    exact retOut X89 hx Bd.returns rfl (Or.inr (Or.inr (Or.inr (Or.inr ⟨rfl, rfl, rfl⟩)))) (hb hby d10_33) hr
   ·show Qrm_named Z x1 t1 k1 N1 vs1 cs1 z0 va u0 u1 u2 u3 w0 w1 w2 w3 y0 y1 y2 y3 kV b0 b1 b2 b3 h0 n0 _ T89.heap _
    rw [e89]
    exact ⟨(by simp only [own_pick, if_neg (own_ne hb80), if_pos hb92.symm]), N89, ((Keep.refl h0 []).trans K62 all0)⟩
  ·obtain ⟨cl93, Ar93, q93, S93, M93, H93, G93⟩ := id p62_0
   have hin93 : ¬ ((2 : Int32) < 0 ∨ cl93.slots.size ≤ ((2 : Int32)).toNatClampNeg) := inb_of S93 ⟨by decide, by decide⟩
   have hat93 : cl93.slots[((2 : Int32)).toNatClampNeg]? = some (.ref u2) := Has.at H93 hin93 rfl
   have S94 : Fld Z h62 u2 "com/example/rolegrant/rolegrant/policy/Kind" "word" "Ljava/lang/String;" (.ref w2) := SZw2.ext f65.2
   obtain ⟨T95, X95, e95, st95⟩ := getF X89 hx hZ hown (host := "") (Or.inl (wd hw 67 rfl)) Via.refl e89 S94 (g := (mkF m 21 (la9 x1 bb_62 (4 : Int32) (2 : Int32) u2) [(.ref u2)])) rfl rfl (hb hby d10_21)
   have S96 : Exa Z h62 w2 kS0 := SZx2.ext f65.2
   have S97 : Fld Z h62 w2 kS0 "value" "[B" (.ref y2) := SZy2.ext f65.2
   have S98 : Fld Z h62 w2 kS0 "coder" "B" (.int 0) := SZc2.ext f65.2
   have S99 : Arv Z h62 y2 b2 .byte (4 : Int32) [(.int 114), (.int 111), (.int 108), (.int 101)] (.int 0) := SZb2.ext f65.2
   have S100 : Sta Z h62 kS0 "COMPACT_STRINGS" "Z" (.int z0) := SZc.ext f65.2
   have S102 : Exa Z h62 w2 kS0 := SZx2.ext f65.2
   obtain ⟨cq101, kq101, q101a, q101b, q101c⟩ := isOf hZ e95 S102
   obtain ⟨v101, _, ⟨T101, L101, k101, n101⟩, -, X101, ⟨Lc101, hQ101, l101, y101, z101⟩, st101⟩ := X95.virtualBack hx (y := (⟨kS0, "equals", "(Ljava/lang/Object;)Z"⟩ : MethodName)) (z := (⟨kS0, "equals", "(Ljava/lang/Object;)Z"⟩ : MethodName)) hown (mvT hZ (wd hw 69 rfl)) (mvT hZ (wd hw 70 rfl)) (notFace_of_selects (args := #[]) (mvT hZ (wd hw 72 rfl))) (mvT hZ (wd hw 72 rfl)) (mvT hZ (wd hw 71 rfl)) (by decide) (StrChars.Road.eqW (W := 0) hZ (own_heq hw) (kI := 4) (wd hw 6 rfl) S96 S97 S98 S99 own_lcod2 own_lbd2 own_lle2 f72 f73 f74 f75 hcd1 hbd1 hl1 S100 hz0 (by decide) (by decide)) q101a q101c (g := (mkF m 25 (la9 x1 bb_62 (4 : Int32) (2 : Int32) u2) [(.ref x1), (.ref w2)])) rfl (by rw [hml]; rfl) (Steps.refl _) (argsL := [(.ref x1)]) (rest := []) (lenOf pd_5 rfl) rfl (wz rfl) (hb hby d10_25) (fun _ _ => ⟨rfl, e95, (by decide : 1 + 0 ≤ _), (by decide : 4 + 0 ≤ _)⟩)
   dsimp only [Pt.U, Pt.locs, Pt.cells, Pt.slots] at X101 l101 y101 z101 st101 hQ101
   rw [l101, y101, z101] at X101
   obtain ⟨hv101, rfl, e101⟩ := hQ101
   obtain rfl : v101 = some (.int (own_eqs own_lc2 cs1)) := by
    rcases hv101 with ⟨q, r⟩ | ⟨q, r⟩
    ·rw [q, own_eqs, if_pos r]
    ·rw [q, own_eqs, if_neg r]
   have N101 : Fr n0 _ := Fr.app N89 (Fr.nil n0)
   have pre103 : ∀ t, GO p e below T101 (mkF m 28 (la9 x1 bb_62 (4 : Int32) (2 : Int32) u2) [(.int (own_eqs own_lc2 cs1))]) t → GO p e below s₁ (entryFrame m #[(.ref x1)] 5) t := by
    intro t kt
    refine pre91 t ?_
    show GO p e below T89 (mkF m 28 (la9 x1 bb_62 (4 : Int32) (1 : Int32) u1) [(.int (own_eqs own_lc1 cs1))]) _
    refine XS.ifYes X89.here hx rfl (pc0 := 28) (pc' := 34) rfl (hb hby d10_28) rfl ((if0 _ _).trans (teq (own_eq0 hb92 : (own_eqs own_lc1 cs1) = (0 : Int32))).1) (by decide) (by decide) ?_
    show GO p e below T89 (mkF m 34 (la9 x1 bb_62 (4 : Int32) (1 : Int32) u1) []) _
    refine XS.iinc X89.here hx rfl (hb hby d10_34) rfl (l' := (la9 x1 bb_62 (4 : Int32) ((1 : Int32) + (1 : Int32)) u1)) rfl ?_
    rw [show ((1 : Int32) + (1 : Int32)) = (2 : Int32) from by decide]
    show GO p e below T89 (mkF m 37 (la9 x1 bb_62 (4 : Int32) (2 : Int32) u1) []) _
    refine XS.goto X89.here hx rfl (pc0 := 37) (pc' := 9) rfl (hb hby d10_37) (by decide) (by decide) ?_
    show GO p e below T89 (mkF m 9 (la9 x1 bb_62 (4 : Int32) (2 : Int32) u1) []) _
    refine XS.iloadN X89.here hx rfl (hb hby d10_9) rfl ?_
    show GO p e below T89 (mkF m 10 (la9 x1 bb_62 (4 : Int32) (2 : Int32) u1) [(.int 2)]) _
    refine XS.iloadN X89.here hx rfl (hb hby d10_10) rfl ?_
    show GO p e below T89 (mkF m 11 (la9 x1 bb_62 (4 : Int32) (2 : Int32) u1) [(.int 4), (.int 2)]) _
    refine XS.icmpNo X89.here hx rfl (hb hby d10_11) rfl (tlt ((by decide) : (2 : Int32) < (4 : Int32))).2.1 ?_
    show GO p e below T89 (mkF m 14 (la9 x1 bb_62 (4 : Int32) (2 : Int32) u1) []) _
    refine XS.aloadN X89.here hx rfl (hb hby d10_14) rfl rfl ?_
    show GO p e below T89 (mkF m 15 (la9 x1 bb_62 (4 : Int32) (2 : Int32) u1) [(.ref bb_62)]) _
    refine XS.iloadN X89.here hx rfl (hb hby d10_15) rfl ?_
    show GO p e below T89 (mkF m 16 (la9 x1 bb_62 (4 : Int32) (2 : Int32) u1) [(.int 2), (.ref bb_62)]) _
    refine X89.aaload hx (j := (2 : Int32)) (v := (.ref u2)) (by rw [e89]; exact Ar93.1) (State.isArrayOf_alike hZ.alike Ar93.2.1) rfl Ar93.2.2 hin93 hat93 (g := (mkF m 16 (la9 x1 bb_62 (4 : Int32) (2 : Int32) u1) [(.int 2), (.ref bb_62)])) rfl rfl (hb hby d10_16) _ ?_
    show GO p e below T89 (mkF m 17 (la9 x1 bb_62 (4 : Int32) (2 : Int32) u1) [(.ref u2)]) _
    refine XS.astore X89.here hx rfl (hb hby d10_17) rfl rfl (l' := (la9 x1 bb_62 (4 : Int32) (2 : Int32) u2)) rfl ?_
    show GO p e below T89 (mkF m 19 (la9 x1 bb_62 (4 : Int32) (2 : Int32) u2) []) _
    refine XS.aload X89.here hx rfl (hb hby d10_19) rfl rfl ?_
    show GO p e below T89 (mkF m 21 (la9 x1 bb_62 (4 : Int32) (2 : Int32) u2) [(.ref u2)]) _
    refine st95 _ ?_
    show GO p e below T95 (mkF m 24 (la9 x1 bb_62 (4 : Int32) (2 : Int32) u2) [(.ref w2)]) _
    refine XS.aloadN X95.here hx rfl (hb hby d10_24) rfl rfl ?_
    show GO p e below T95 (mkF m 25 (la9 x1 bb_62 (4 : Int32) (2 : Int32) u2) [(.ref x1), (.ref w2)]) _
    refine st101.trans ?_
    exact kt
   by_cases hb104 : own_lc2 = cs1
   ·obtain ⟨fs, hr, hrun, hended, hW, hsame⟩ := X101.leave (v := some (.ref u2)) (fun h => by rw [Bd.returns] at h; cases h)
    refine ⟨_, _, pre103 _ ?_, hrun, hended, _, _, rfl, ?_, ⟨_, rfl⟩, hW, hsame.mono (by decide) (by decide)⟩
    ·show GO p e below T101 (mkF m 28 (la9 x1 bb_62 (4 : Int32) (2 : Int32) u2) [(.int (own_eqs own_lc2 cs1))]) _
     refine XS.ifNo X101.here hx rfl (hb hby d10_28) rfl ((if0 _ _).trans (feq (own_eq1 hb104 : ¬ ((own_eqs own_lc2 cs1) = (0 : Int32)))).1) ?_
     show GO p e below T101 (mkF m 31 (la9 x1 bb_62 (4 : Int32) (2 : Int32) u2) []) _
     refine XS.aload X101.here hx rfl (hb hby d10_31) rfl rfl ?_
     show GO p e below T101 (mkF m 33 (la9 x1 bb_62 (4 : Int32) (2 : Int32) u2) [(.ref u2)]) _
     exact retOut X101 hx Bd.returns rfl (Or.inr (Or.inr (Or.inr (Or.inr ⟨rfl, rfl, rfl⟩)))) (hb hby d10_33) hr
    ·show Qrm_named Z x1 t1 k1 N1 vs1 cs1 z0 va u0 u1 u2 u3 w0 w1 w2 w3 y0 y1 y2 y3 kV b0 b1 b2 b3 h0 n0 _ T101.heap _
     rw [e101]
     exact ⟨(by simp only [own_pick, if_neg (own_ne hb80), if_neg (own_ne hb92), if_pos hb104.symm]), N101, ((Keep.refl h0 []).trans K62 all0)⟩
   ·obtain ⟨cl105, Ar105, q105, S105, M105, H105, G105⟩ := id p62_0
    have hin105 : ¬ ((3 : Int32) < 0 ∨ cl105.slots.size ≤ ((3 : Int32)).toNatClampNeg) := inb_of S105 ⟨by decide, by decide⟩
    have hat105 : cl105.slots[((3 : Int32)).toNatClampNeg]? = some (.ref u3) := Has.at H105 hin105 rfl
    have S106 : Fld Z h62 u3 "com/example/rolegrant/rolegrant/policy/Kind" "word" "Ljava/lang/String;" (.ref w3) := SZw3.ext f65.2
    obtain ⟨T107, X107, e107, st107⟩ := getF X101 hx hZ hown (host := "") (Or.inl (wd hw 67 rfl)) Via.refl e101 S106 (g := (mkF m 21 (la9 x1 bb_62 (4 : Int32) (3 : Int32) u3) [(.ref u3)])) rfl rfl (hb hby d10_21)
    have S108 : Exa Z h62 w3 kS0 := SZx3.ext f65.2
    have S109 : Fld Z h62 w3 kS0 "value" "[B" (.ref y3) := SZy3.ext f65.2
    have S110 : Fld Z h62 w3 kS0 "coder" "B" (.int 0) := SZc3.ext f65.2
    have S111 : Arv Z h62 y3 b3 .byte (9 : Int32) [(.int 112), (.int 114), (.int 105), (.int 118), (.int 105), (.int 108), (.int 101), (.int 103), (.int 101)] (.int 0) := SZb3.ext f65.2
    have S112 : Sta Z h62 kS0 "COMPACT_STRINGS" "Z" (.int z0) := SZc.ext f65.2
    have S114 : Exa Z h62 w3 kS0 := SZx3.ext f65.2
    obtain ⟨cq113, kq113, q113a, q113b, q113c⟩ := isOf hZ e107 S114
    obtain ⟨v113, _, ⟨T113, L113, k113, n113⟩, -, X113, ⟨Lc113, hQ113, l113, y113, z113⟩, st113⟩ := X107.virtualBack hx (y := (⟨kS0, "equals", "(Ljava/lang/Object;)Z"⟩ : MethodName)) (z := (⟨kS0, "equals", "(Ljava/lang/Object;)Z"⟩ : MethodName)) hown (mvT hZ (wd hw 69 rfl)) (mvT hZ (wd hw 70 rfl)) (notFace_of_selects (args := #[]) (mvT hZ (wd hw 72 rfl))) (mvT hZ (wd hw 72 rfl)) (mvT hZ (wd hw 71 rfl)) (by decide) (StrChars.Road.eqW (W := 0) hZ (own_heq hw) (kI := 4) (wd hw 6 rfl) S108 S109 S110 S111 own_lcod3 own_lbd3 own_lle3 f72 f73 f74 f75 hcd1 hbd1 hl1 S112 hz0 (by decide) (by decide)) q113a q113c (g := (mkF m 25 (la9 x1 bb_62 (4 : Int32) (3 : Int32) u3) [(.ref x1), (.ref w3)])) rfl (by rw [hml]; rfl) (Steps.refl _) (argsL := [(.ref x1)]) (rest := []) (lenOf pd_5 rfl) rfl (wz rfl) (hb hby d10_25) (fun _ _ => ⟨rfl, e107, (by decide : 1 + 0 ≤ _), (by decide : 4 + 0 ≤ _)⟩)
    dsimp only [Pt.U, Pt.locs, Pt.cells, Pt.slots] at X113 l113 y113 z113 st113 hQ113
    rw [l113, y113, z113] at X113
    obtain ⟨hv113, rfl, e113⟩ := hQ113
    obtain rfl : v113 = some (.int (own_eqs own_lc3 cs1)) := by
     rcases hv113 with ⟨q, r⟩ | ⟨q, r⟩
     ·rw [q, own_eqs, if_pos r]
     ·rw [q, own_eqs, if_neg r]
    have N113 : Fr n0 _ := Fr.app N101 (Fr.nil n0)
    have pre115 : ∀ t, GO p e below T113 (mkF m 28 (la9 x1 bb_62 (4 : Int32) (3 : Int32) u3) [(.int (own_eqs own_lc3 cs1))]) t → GO p e below s₁ (entryFrame m #[(.ref x1)] 5) t := by
     intro t kt
     refine pre103 t ?_
     show GO p e below T101 (mkF m 28 (la9 x1 bb_62 (4 : Int32) (2 : Int32) u2) [(.int (own_eqs own_lc2 cs1))]) _
     refine XS.ifYes X101.here hx rfl (pc0 := 28) (pc' := 34) rfl (hb hby d10_28) rfl ((if0 _ _).trans (teq (own_eq0 hb104 : (own_eqs own_lc2 cs1) = (0 : Int32))).1) (by decide) (by decide) ?_
     show GO p e below T101 (mkF m 34 (la9 x1 bb_62 (4 : Int32) (2 : Int32) u2) []) _
     refine XS.iinc X101.here hx rfl (hb hby d10_34) rfl (l' := (la9 x1 bb_62 (4 : Int32) ((2 : Int32) + (1 : Int32)) u2)) rfl ?_
     rw [show ((2 : Int32) + (1 : Int32)) = (3 : Int32) from by decide]
     show GO p e below T101 (mkF m 37 (la9 x1 bb_62 (4 : Int32) (3 : Int32) u2) []) _
     refine XS.goto X101.here hx rfl (pc0 := 37) (pc' := 9) rfl (hb hby d10_37) (by decide) (by decide) ?_
     show GO p e below T101 (mkF m 9 (la9 x1 bb_62 (4 : Int32) (3 : Int32) u2) []) _
     refine XS.iloadN X101.here hx rfl (hb hby d10_9) rfl ?_
     show GO p e below T101 (mkF m 10 (la9 x1 bb_62 (4 : Int32) (3 : Int32) u2) [(.int 3)]) _
     refine XS.iloadN X101.here hx rfl (hb hby d10_10) rfl ?_
     show GO p e below T101 (mkF m 11 (la9 x1 bb_62 (4 : Int32) (3 : Int32) u2) [(.int 4), (.int 3)]) _
     refine XS.icmpNo X101.here hx rfl (hb hby d10_11) rfl (tlt ((by decide) : (3 : Int32) < (4 : Int32))).2.1 ?_
     show GO p e below T101 (mkF m 14 (la9 x1 bb_62 (4 : Int32) (3 : Int32) u2) []) _
     refine XS.aloadN X101.here hx rfl (hb hby d10_14) rfl rfl ?_
     show GO p e below T101 (mkF m 15 (la9 x1 bb_62 (4 : Int32) (3 : Int32) u2) [(.ref bb_62)]) _
     refine XS.iloadN X101.here hx rfl (hb hby d10_15) rfl ?_
     show GO p e below T101 (mkF m 16 (la9 x1 bb_62 (4 : Int32) (3 : Int32) u2) [(.int 3), (.ref bb_62)]) _
     refine X101.aaload hx (j := (3 : Int32)) (v := (.ref u3)) (by rw [e101]; exact Ar105.1) (State.isArrayOf_alike hZ.alike Ar105.2.1) rfl Ar105.2.2 hin105 hat105 (g := (mkF m 16 (la9 x1 bb_62 (4 : Int32) (3 : Int32) u2) [(.int 3), (.ref bb_62)])) rfl rfl (hb hby d10_16) _ ?_
     show GO p e below T101 (mkF m 17 (la9 x1 bb_62 (4 : Int32) (3 : Int32) u2) [(.ref u3)]) _
     refine XS.astore X101.here hx rfl (hb hby d10_17) rfl rfl (l' := (la9 x1 bb_62 (4 : Int32) (3 : Int32) u3)) rfl ?_
     show GO p e below T101 (mkF m 19 (la9 x1 bb_62 (4 : Int32) (3 : Int32) u3) []) _
     refine XS.aload X101.here hx rfl (hb hby d10_19) rfl rfl ?_
     show GO p e below T101 (mkF m 21 (la9 x1 bb_62 (4 : Int32) (3 : Int32) u3) [(.ref u3)]) _
     refine st107 _ ?_
     show GO p e below T107 (mkF m 24 (la9 x1 bb_62 (4 : Int32) (3 : Int32) u3) [(.ref w3)]) _
     refine XS.aloadN X107.here hx rfl (hb hby d10_24) rfl rfl ?_
     show GO p e below T107 (mkF m 25 (la9 x1 bb_62 (4 : Int32) (3 : Int32) u3) [(.ref x1), (.ref w3)]) _
     refine st113.trans ?_
     exact kt
    by_cases hb116 : own_lc3 = cs1
    ·obtain ⟨fs, hr, hrun, hended, hW, hsame⟩ := X113.leave (v := some (.ref u3)) (fun h => by rw [Bd.returns] at h; cases h)
     refine ⟨_, _, pre115 _ ?_, hrun, hended, _, _, rfl, ?_, ⟨_, rfl⟩, hW, hsame.mono (by decide) (by decide)⟩
     ·show GO p e below T113 (mkF m 28 (la9 x1 bb_62 (4 : Int32) (3 : Int32) u3) [(.int (own_eqs own_lc3 cs1))]) _
      refine XS.ifNo X113.here hx rfl (hb hby d10_28) rfl ((if0 _ _).trans (feq (own_eq1 hb116 : ¬ ((own_eqs own_lc3 cs1) = (0 : Int32)))).1) ?_
      show GO p e below T113 (mkF m 31 (la9 x1 bb_62 (4 : Int32) (3 : Int32) u3) []) _
      refine XS.aload X113.here hx rfl (hb hby d10_31) rfl rfl ?_
      show GO p e below T113 (mkF m 33 (la9 x1 bb_62 (4 : Int32) (3 : Int32) u3) [(.ref u3)]) _
      exact retOut X113 hx Bd.returns rfl (Or.inr (Or.inr (Or.inr (Or.inr ⟨rfl, rfl, rfl⟩)))) (hb hby d10_33) hr
     ·show Qrm_named Z x1 t1 k1 N1 vs1 cs1 z0 va u0 u1 u2 u3 w0 w1 w2 w3 y0 y1 y2 y3 kV b0 b1 b2 b3 h0 n0 _ T113.heap _
      rw [e113]
      exact ⟨(by simp only [own_pick, if_neg (own_ne hb80), if_neg (own_ne hb92), if_neg (own_ne hb104), if_pos hb116.symm]), N113, ((Keep.refl h0 []).trans K62 all0)⟩
    ·obtain ⟨fs, hr, hrun, hended, hW, hsame⟩ := X113.leave (v := some .null) (fun h => by rw [Bd.returns] at h; cases h)
     refine ⟨_, _, pre115 _ ?_, hrun, hended, _, _, rfl, ?_, ⟨_, rfl⟩, hW, hsame.mono (by decide) (by decide)⟩
     ·show GO p e below T113 (mkF m 28 (la9 x1 bb_62 (4 : Int32) (3 : Int32) u3) [(.int (own_eqs own_lc3 cs1))]) _
      refine XS.ifYes X113.here hx rfl (pc0 := 28) (pc' := 34) rfl (hb hby d10_28) rfl ((if0 _ _).trans (teq (own_eq0 hb116 : (own_eqs own_lc3 cs1) = (0 : Int32))).1) (by decide) (by decide) ?_
      show GO p e below T113 (mkF m 34 (la9 x1 bb_62 (4 : Int32) (3 : Int32) u3) []) _
      refine XS.iinc X113.here hx rfl (hb hby d10_34) rfl (l' := (la9 x1 bb_62 (4 : Int32) ((3 : Int32) + (1 : Int32)) u3)) rfl ?_
      rw [show ((3 : Int32) + (1 : Int32)) = (4 : Int32) from by decide]
      show GO p e below T113 (mkF m 37 (la9 x1 bb_62 (4 : Int32) (4 : Int32) u3) []) _
      refine XS.goto X113.here hx rfl (pc0 := 37) (pc' := 9) rfl (hb hby d10_37) (by decide) (by decide) ?_
      show GO p e below T113 (mkF m 9 (la9 x1 bb_62 (4 : Int32) (4 : Int32) u3) []) _
      refine XS.iloadN X113.here hx rfl (hb hby d10_9) rfl ?_
      show GO p e below T113 (mkF m 10 (la9 x1 bb_62 (4 : Int32) (4 : Int32) u3) [(.int 4)]) _
      refine XS.iloadN X113.here hx rfl (hb hby d10_10) rfl ?_
      show GO p e below T113 (mkF m 11 (la9 x1 bb_62 (4 : Int32) (4 : Int32) u3) [(.int 4), (.int 4)]) _
      refine XS.icmpYes X113.here hx rfl (pc0 := 11) (pc' := 40) rfl (hb hby d10_11) rfl (flt ((by decide) : ¬ ((4 : Int32) < (4 : Int32)))).2.1 (by decide) (by decide) ?_
      show GO p e below T113 (mkF m 40 (la9 x1 bb_62 (4 : Int32) (4 : Int32) u3) []) _
      refine XS.aconstNull X113.here hx rfl (hb hby d10_40) ?_
      show GO p e below T113 (mkF m 41 (la9 x1 bb_62 (4 : Int32) (4 : Int32) u3) [.null]) _
      exact retOut X113 hx Bd.returns rfl (Or.inr (Or.inr (Or.inr (Or.inr ⟨rfl, rfl, rfl⟩)))) (hb hby d10_41) hr
     ·show Qrm_named Z x1 t1 k1 N1 vs1 cs1 z0 va u0 u1 u2 u3 w0 w1 w2 w3 y0 y1 y2 y3 kV b0 b1 b2 b3 h0 n0 _ T113.heap _
      rw [e113]
      exact ⟨(by simp [own_pick, own_ne hb80, own_ne hb92, own_ne hb104, own_ne hb116]), N113, ((Keep.refl h0 []).trans K62 all0)⟩
def Qrm_exp (Z : State) (x1 : Addr) (t1 : Addr) (k1 : ClassId) (N1 : Int32) (vs1 : List Value) (cs1 : List Int32) (z0 : Int32) (va : Addr) (u0 : Addr) (u1 : Addr) (u2 : Addr) (u3 : Addr) (w0 : Addr) (w1 : Addr) (w2 : Addr) (w3 : Addr) (y0 : Addr) (y1 : Addr) (y2 : Addr) (y3 : Addr) (kV : ClassId) (b0 : ClassId) (b1 : ClassId) (b2 : ClassId) (b3 : ClassId) (h0 : Heap) (n0 : Nat) (v : Option Value) (h : Heap) (L : List Loc) : Prop := v = some (own_pick cs1 u0 u1 u2 u3) ∧ Fr n0 L ∧ Keep h0 h []
theorem ef_rm_exp (m : MethodId) (x0 : Addr) : entryFrame m #[(.ref x0)] 1 = mkF m 0 #[.val (.ref x0)] [] := by first | rfl | (simp [entryFrame, mkF, argsToLocals, Value.category]; done)
theorem rm_exp (l : Launch) (Z : State) (a0 : Array Value) (hw : HW Z a0) (ws : List Jvm.Cond) (x1 : Addr) (t1 : Addr) (k1 : ClassId) (N1 : Int32) (vs1 : List Value) (cs1 : List Int32) (z0 : Int32) (va : Addr) (u0 : Addr) (u1 : Addr) (u2 : Addr) (u3 : Addr) (w0 : Addr) (w1 : Addr) (w2 : Addr) (w3 : Addr) (y0 : Addr) (y1 : Addr) (y2 : Addr) (y3 : Addr) (kV : ClassId) (b0 : ClassId) (b1 : ClassId) (b2 : ClassId) (b3 : ClassId) (h0 : Heap) (n0 : Nat) (Z0 : n0 ≤ h0.size) (O0 : Old Z n0 h0) (Es1 : Exa Z h0 x1 kS0) (Fc1 : Fld Z h0 x1 kS0 "coder" "B" (.int 0)) (Fv1 : Fld Z h0 x1 kS0 "value" "[B" (.ref t1)) (Vs1 : Arv Z h0 t1 k1 .byte N1 vs1 (.int 0)) (SZc : Sta Z Z.heap kS0 "COMPACT_STRINGS" "Z" (.int z0)) (hz0 : ¬ z0 = 0) (hcd1 : StrChars.Road.CodA cs1 0 N1 vs1) (hbd1 : ∀ c ∈ cs1, ¬ c < 0 ∧ ¬ (65535 : Int32) < c) (hl1 : cs1.length ≤ 4000) (HK : OwnK Z va u0 u1 u2 u3 w0 w1 w2 w3 y0 y1 y2 y3 kV b0 b1 b2 b3) :
  OwnW l Z h0 (⟨kS1, "expected", kS2⟩ : MethodName) (Jvm.Cond.code (⟨kS1, "expected", kS2⟩ : MethodName) method_4_code 1 (some (.object "com/example/rolegrant/rolegrant/policy/Kind")) :: ws) (RM 2 8 104 28) #[(.ref x1)] [] (Qrm_exp Z x1 t1 k1 N1 vs1 cs1 z0 va u0 u1 u2 u3 w0 w1 w2 w3 y0 y1 y2 y3 kV b0 b1 b2 b3 h0 n0) := by
 refine MetFree.of_bodySF (plainFor_of_name pn_0) hisR ?_
 intro p e s m args below meth c s₁ Bd hml0 hP hK
 obtain ⟨rfl, hZ, hh, H0, sf⟩ := hP
 have hx := Bd.exec
 have hby := Bd.bytes
 have hml : c.maxLocals = 1 := hml0
 have hown : s.vm.findClass kS1 = some m.cls := findClass_of_methodNamed Bd.named
 have hnm := (name_of_methodNamed Bd.named Bd.method).1
 have X0 : Stand p l e (RM 2 8 104 28) (s.setVm s.vm) m #[(.ref x1)] below meth c s₁ [] 0 0 := Stand.of_body Bd
 have hS0 : s.Since s.vm h0.size := (State.WarmedH.refl s).since _
 have C0 : CHr Z EL1 s.vm h0 s.vm h0 := CHr.refl H0
 have e0 : s₁.heap = h0 := by rw [← hh, Bd.state]; rfl
 have N0 := Fr.nil n0
 have pre0 : ∀ t, GO p e below s₁ (mkF m 0 #[.val (.ref x1)] []) t → GO p e below s₁ (entryFrame m #[(.ref x1)] 1) t := fun t k => castTop (ef_rm_exp m x1) k
 have lt_Es1 := ltA Es1.lt
 have lt_Fc1 := ltA Fc1.lt
 have lt_Fv1 := ltA Fv1.lt
 have lt_Vs1 := ltA Vs1.lt
 obtain ⟨SZv, SZe, SZa, SZs0, SZw0, SZx0, SZc0, SZy0, SZb0, SZs1, SZw1, SZx1, SZc1, SZy1, SZb1, SZs2, SZw2, SZx2, SZc2, SZy2, SZb2, SZs3, SZw3, SZx3, SZc3, SZy3, SZb3⟩ := id HK
 obtain ⟨sa117, T117, h117, kk117, sb117, sk117, X117, e117, E117, hS117, hk117, hZ117, hown117, A117, Fc117, Fv117, V117, lt117, ltb117, C117w, Lt117, ne117, st117⟩ := ldcCH X0 hx hZ hown (wd hw 4 rfl) (own_wS hw) e0 hS0 (by omega) (own_EW hw) (by decide) C0.1 (vs := [(.int 117), (.int 115), (.int 101), (.int 114)]) (z := (4 : Int32)) (by decide +kernel) (by decide) (by decide) (g := (mkF m 1 #[.val (.ref x1)] [(.ref x1)])) rfl (hb hby d14_1) (n := 16) (by decide) (by decide) (by decide) (by decide)
 have C118 : CHr Z EL1 s.vm h0 T117.vm h117 := C0.trans (C117w)
 have sz117 : h0.size ≤ h117.size := E117.1
 have nz117 := Nat.le_trans Z0 sz117
 have lv117 := ltA lt117
 have lw117 := ltA ltb117
 have f119 : Old Z n0 h117 := (O0.ext E117)
 have S120 : Exa Z h117 va "[Lcom/example/rolegrant/rolegrant/policy/Kind;" := SZe.ext f119.2
 have nx117_va := ne117 va (Safe.exa hZ117.alike S120 (by decide) (by decide))
 have f121 : Exa Z h117 x1 kS0 := (Es1.ext E117)
 have f122 : Fld Z h117 x1 kS0 "value" "[B" (.ref t1) := (Fv1.ext E117)
 have f123 : Fld Z h117 x1 kS0 "coder" "B" (.int 0) := (Fc1.ext E117)
 have f124 : Arv Z h117 t1 k1 .byte N1 vs1 (.int 0) := (Vs1.ext E117)
 have S125 : Sta Z h117 kS0 "COMPACT_STRINGS" "Z" (.int z0) := SZc.ext f119.2
 obtain ⟨cq126, kq126, q126a, q126b, q126c⟩ := isOf hZ117 e117 f121
 obtain ⟨v126, _, ⟨T126, L126, k126, n126⟩, -, X126, ⟨Lc126, hQ126, l126, y126, z126⟩, st126⟩ := X117.virtualBack hx (y := (⟨kS0, "equals", "(Ljava/lang/Object;)Z"⟩ : MethodName)) (z := (⟨kS0, "equals", "(Ljava/lang/Object;)Z"⟩ : MethodName)) hown117 (mvT hZ117 (wd hw 82 rfl)) (mvT hZ117 (wd hw 70 rfl)) (notFace_of_selects (args := #[]) (mvT hZ117 (wd hw 72 rfl))) (mvT hZ117 (wd hw 72 rfl)) (mvT hZ117 (wd hw 71 rfl)) (by decide) (StrChars.Road.eqW (W := 0) hZ117 (own_heq hw) (kI := 4) (wd hw 6 rfl) f121 f122 f123 f124 hcd1 hbd1 hl1 A117 Fv117 Fc117 V117 own_lcod0 own_lbd0 own_lle0 S125 hz0 (by decide) (by decide)) q126a q126c (g := (mkF m 3 #[.val (.ref x1)] [(.ref sa117), (.ref x1)])) rfl (by rw [hml]; rfl) (Steps.refl _) (argsL := [(.ref sa117)]) (rest := []) (lenOf pd_5 rfl) rfl (wz rfl) (hb hby d14_3) (fun _ _ => ⟨rfl, e117, (by decide : 2 + 0 ≤ _), (by decide : 20 + 0 ≤ _)⟩)
 dsimp only [Pt.U, Pt.locs, Pt.cells, Pt.slots] at X126 l126 y126 z126 st126 hQ126
 rw [l126, y126, z126] at X126
 obtain ⟨hv126, rfl, e126⟩ := hQ126
 obtain rfl : v126 = some (.int (own_eqs cs1 own_lc0)) := by
  rcases hv126 with ⟨q, r⟩ | ⟨q, r⟩
  ·rw [q, own_eqs, if_pos r]
  ·rw [q, own_eqs, if_neg r]
 have N126 : Fr n0 _ := Fr.app N0 (Fr.nil n0)
 have pre127 : ∀ t, GO p e below T126 (mkF m 6 #[.val (.ref x1)] [(.int (own_eqs cs1 own_lc0))]) t → GO p e below s₁ (entryFrame m #[(.ref x1)] 1) t := by
  intro t kt
  refine pre0 t ?_
  show GO p e below s₁ (mkF m 0 #[.val (.ref x1)] []) _
  refine XS.aloadN X0.here hx rfl (hb hby d14_0) rfl rfl ?_
  show GO p e below s₁ (mkF m 1 #[.val (.ref x1)] [(.ref x1)]) _
  refine st117 _ ?_
  show GO p e below T117 (mkF m 3 #[.val (.ref x1)] [(.ref sa117), (.ref x1)]) _
  refine st126.trans ?_
  exact kt
 by_cases hb128 : cs1 = own_lc0
 ·have S129 : Sta Z h117 "com/example/rolegrant/rolegrant/policy/Kind" "USER" "Lcom/example/rolegrant/rolegrant/policy/Kind;" (.ref u0) := SZs0.ext f119.2
  obtain ⟨T130, X130, e130, st130⟩ := getS2 X126 hx hZ117 hown117 (host := "") (Or.inl (wd hw 117 rfl)) Via.refl e126 S129 (g := (mkF m 9 #[.val (.ref x1)] [])) rfl (hb hby d14_9)
  obtain ⟨fs, hr, hrun, hended, hE⟩ := X130.leaveW hS117 (by rw [e130]; omega) (v := some (.ref u0)) (fun h => by rw [Bd.returns] at h; cases h)
  have CE := C118.trans (CHv.at X130 hZ117 (own_EW hw) C118.1)
  refine ⟨_, _, pre127 _ ?_, hrun, hended, _, _, rfl, ?_, ?_, ⟨hE.1, hE.2.1, hE.2.2.1, hE.2.2.2.mono (by decide) (by decide)⟩⟩
  ·show GO p e below T126 (mkF m 6 #[.val (.ref x1)] [(.int (own_eqs cs1 own_lc0))]) _
   refine XS.ifNo X126.here hx rfl (hb hby d14_6) rfl ((if0 _ _).trans (feq (own_eq1 hb128 : ¬ ((own_eqs cs1 own_lc0) = (0 : Int32)))).1) ?_
   show GO p e below T126 (mkF m 9 #[.val (.ref x1)] []) _
   refine st130 _ ?_
   show GO p e below T130 (mkF m 12 #[.val (.ref x1)] [(.ref u0)]) _
   exact retOut X130 hx Bd.returns rfl (Or.inr (Or.inr (Or.inr (Or.inr ⟨rfl, rfl, rfl⟩)))) (hb hby d14_12) hr
  ·show Qrm_exp Z x1 t1 k1 N1 vs1 cs1 z0 va u0 u1 u2 u3 w0 w1 w2 w3 y0 y1 y2 y3 kV b0 b1 b2 b3 h0 n0 _ T130.heap _
   rw [e130]
   exact ⟨(by simp only [own_pick, if_pos hb128]), N126, ((Keep.refl h0 []).ext E117)⟩
  ·show CHr Z EL1 s.vm s.heap T130.vm T130.heap
   rw [hh, e130]
   exact CE
 ·obtain ⟨sa131, T131, h131, kk131, sb131, sk131, X131, e131, E131, hS131, hk131, hZ131, hown131, A131, Fc131, Fv131, V131, lt131, ltb131, C131w, Lt131, ne131, st131⟩ := ldcCH X126 hx hZ117 hown117 (wd hw 83 rfl) (own_wS hw) e126 hS117 (by omega) (own_EW hw) (by decide) C118.1 (vs := [(.int 103), (.int 114), (.int 111), (.int 117), (.int 112)]) (z := (5 : Int32)) (by decide +kernel) (by decide) (by decide) (g := (mkF m 14 #[.val (.ref x1)] [(.ref x1)])) rfl (hb hby d14_14) (n := 20) (by decide) (by decide) (by decide) (by decide)
  have C132 : CHr Z EL1 s.vm h0 T131.vm h131 := C118.trans (C131w)
  have sz131 : h117.size ≤ h131.size := E131.1
  have nz131 := Nat.le_trans nz117 sz131
  have lv131 := ltA lt131
  have lw131 := ltA ltb131
  have f133 : Old Z n0 h131 := (f119.ext E131)
  have S134 : Exa Z h131 va "[Lcom/example/rolegrant/rolegrant/policy/Kind;" := SZe.ext f133.2
  have nx131_va := ne131 va (Safe.exa hZ131.alike S134 (by decide) (by decide))
  have f135 : Exa Z h131 x1 kS0 := (f121.ext E131)
  have f136 : Fld Z h131 x1 kS0 "value" "[B" (.ref t1) := (f122.ext E131)
  have f137 : Fld Z h131 x1 kS0 "coder" "B" (.int 0) := (f123.ext E131)
  have f138 : Arv Z h131 t1 k1 .byte N1 vs1 (.int 0) := (f124.ext E131)
  have S139 : Sta Z h131 kS0 "COMPACT_STRINGS" "Z" (.int z0) := SZc.ext f133.2
  obtain ⟨cq140, kq140, q140a, q140b, q140c⟩ := isOf hZ131 e131 f135
  obtain ⟨v140, _, ⟨T140, L140, k140, n140⟩, -, X140, ⟨Lc140, hQ140, l140, y140, z140⟩, st140⟩ := X131.virtualBack hx (y := (⟨kS0, "equals", "(Ljava/lang/Object;)Z"⟩ : MethodName)) (z := (⟨kS0, "equals", "(Ljava/lang/Object;)Z"⟩ : MethodName)) hown131 (mvT hZ131 (wd hw 82 rfl)) (mvT hZ131 (wd hw 70 rfl)) (notFace_of_selects (args := #[]) (mvT hZ131 (wd hw 72 rfl))) (mvT hZ131 (wd hw 72 rfl)) (mvT hZ131 (wd hw 71 rfl)) (by decide) (StrChars.Road.eqW (W := 0) hZ131 (own_heq hw) (kI := 4) (wd hw 6 rfl) f135 f136 f137 f138 hcd1 hbd1 hl1 A131 Fv131 Fc131 V131 own_lcod1 own_lbd1 own_lle1 S139 hz0 (by decide) (by decide)) q140a q140c (g := (mkF m 16 #[.val (.ref x1)] [(.ref sa131), (.ref x1)])) rfl (by rw [hml]; rfl) (Steps.refl _) (argsL := [(.ref sa131)]) (rest := []) (lenOf pd_5 rfl) rfl (wz rfl) (hb hby d14_16) (fun _ _ => ⟨rfl, e131, (by decide : 4 + 0 ≤ _), (by decide : 44 + 0 ≤ _)⟩)
  dsimp only [Pt.U, Pt.locs, Pt.cells, Pt.slots] at X140 l140 y140 z140 st140 hQ140
  rw [l140, y140, z140] at X140
  obtain ⟨hv140, rfl, e140⟩ := hQ140
  obtain rfl : v140 = some (.int (own_eqs cs1 own_lc1)) := by
   rcases hv140 with ⟨q, r⟩ | ⟨q, r⟩
   ·rw [q, own_eqs, if_pos r]
   ·rw [q, own_eqs, if_neg r]
  have N140 : Fr n0 _ := Fr.app N126 (Fr.nil n0)
  have pre141 : ∀ t, GO p e below T140 (mkF m 19 #[.val (.ref x1)] [(.int (own_eqs cs1 own_lc1))]) t → GO p e below s₁ (entryFrame m #[(.ref x1)] 1) t := by
   intro t kt
   refine pre127 t ?_
   show GO p e below T126 (mkF m 6 #[.val (.ref x1)] [(.int (own_eqs cs1 own_lc0))]) _
   refine XS.ifYes X126.here hx rfl (pc0 := 6) (pc' := 13) rfl (hb hby d14_6) rfl ((if0 _ _).trans (teq (own_eq0 hb128 : (own_eqs cs1 own_lc0) = (0 : Int32))).1) (by decide) (by decide) ?_
   show GO p e below T126 (mkF m 13 #[.val (.ref x1)] []) _
   refine XS.aloadN X126.here hx rfl (hb hby d14_13) rfl rfl ?_
   show GO p e below T126 (mkF m 14 #[.val (.ref x1)] [(.ref x1)]) _
   refine st131 _ ?_
   show GO p e below T131 (mkF m 16 #[.val (.ref x1)] [(.ref sa131), (.ref x1)]) _
   refine st140.trans ?_
   exact kt
  by_cases hb142 : cs1 = own_lc1
  ·have S143 : Sta Z h131 "com/example/rolegrant/rolegrant/policy/Kind" "GROUP" "Lcom/example/rolegrant/rolegrant/policy/Kind;" (.ref u1) := SZs1.ext f133.2
   obtain ⟨T144, X144, e144, st144⟩ := getS2 X140 hx hZ131 hown131 (host := "") (Or.inl (wd hw 120 rfl)) Via.refl e140 S143 (g := (mkF m 22 #[.val (.ref x1)] [])) rfl (hb hby d14_22)
   obtain ⟨fs, hr, hrun, hended, hE⟩ := X144.leaveW hS131 (by rw [e144]; omega) (v := some (.ref u1)) (fun h => by rw [Bd.returns] at h; cases h)
   have CE := C132.trans (CHv.at X144 hZ131 (own_EW hw) C132.1)
   refine ⟨_, _, pre141 _ ?_, hrun, hended, _, _, rfl, ?_, ?_, ⟨hE.1, hE.2.1, hE.2.2.1, hE.2.2.2.mono (by decide) (by decide)⟩⟩
   ·show GO p e below T140 (mkF m 19 #[.val (.ref x1)] [(.int (own_eqs cs1 own_lc1))]) _
    refine XS.ifNo X140.here hx rfl (hb hby d14_19) rfl ((if0 _ _).trans (feq (own_eq1 hb142 : ¬ ((own_eqs cs1 own_lc1) = (0 : Int32)))).1) ?_
    show GO p e below T140 (mkF m 22 #[.val (.ref x1)] []) _
    refine st144 _ ?_
    show GO p e below T144 (mkF m 25 #[.val (.ref x1)] [(.ref u1)]) _
    exact retOut X144 hx Bd.returns rfl (Or.inr (Or.inr (Or.inr (Or.inr ⟨rfl, rfl, rfl⟩)))) (hb hby d14_25) hr
   ·show Qrm_exp Z x1 t1 k1 N1 vs1 cs1 z0 va u0 u1 u2 u3 w0 w1 w2 w3 y0 y1 y2 y3 kV b0 b1 b2 b3 h0 n0 _ T144.heap _
    rw [e144]
    exact ⟨(by simp only [own_pick, if_neg hb128, if_pos hb142]), N140, (((Keep.refl h0 []).ext E117).ext E131)⟩
   ·show CHr Z EL1 s.vm s.heap T144.vm T144.heap
    rw [hh, e144]
    exact CE
  ·obtain ⟨sa145, T145, h145, kk145, sb145, sk145, X145, e145, E145, hS145, hk145, hZ145, hown145, A145, Fc145, Fv145, V145, lt145, ltb145, C145w, Lt145, ne145, st145⟩ := ldcCH X140 hx hZ131 hown131 (wd hw 84 rfl) (own_wS hw) e140 hS131 (by omega) (own_EW hw) (by decide) C132.1 (vs := [(.int 114), (.int 111), (.int 108), (.int 101)]) (z := (4 : Int32)) (by decide +kernel) (by decide) (by decide) (g := (mkF m 27 #[.val (.ref x1)] [(.ref x1)])) rfl (hb hby d14_27) (n := 16) (by decide) (by decide) (by decide) (by decide)
   have C146 : CHr Z EL1 s.vm h0 T145.vm h145 := C132.trans (C145w)
   have sz145 : h131.size ≤ h145.size := E145.1
   have nz145 := Nat.le_trans nz131 sz145
   have lv145 := ltA lt145
   have lw145 := ltA ltb145
   have f147 : Old Z n0 h145 := (f133.ext E145)
   have S148 : Exa Z h145 va "[Lcom/example/rolegrant/rolegrant/policy/Kind;" := SZe.ext f147.2
   have nx145_va := ne145 va (Safe.exa hZ145.alike S148 (by decide) (by decide))
   have f149 : Exa Z h145 x1 kS0 := (f135.ext E145)
   have f150 : Fld Z h145 x1 kS0 "value" "[B" (.ref t1) := (f136.ext E145)
   have f151 : Fld Z h145 x1 kS0 "coder" "B" (.int 0) := (f137.ext E145)
   have f152 : Arv Z h145 t1 k1 .byte N1 vs1 (.int 0) := (f138.ext E145)
   have S153 : Sta Z h145 kS0 "COMPACT_STRINGS" "Z" (.int z0) := SZc.ext f147.2
   obtain ⟨cq154, kq154, q154a, q154b, q154c⟩ := isOf hZ145 e145 f149
   obtain ⟨v154, _, ⟨T154, L154, k154, n154⟩, -, X154, ⟨Lc154, hQ154, l154, y154, z154⟩, st154⟩ := X145.virtualBack hx (y := (⟨kS0, "equals", "(Ljava/lang/Object;)Z"⟩ : MethodName)) (z := (⟨kS0, "equals", "(Ljava/lang/Object;)Z"⟩ : MethodName)) hown145 (mvT hZ145 (wd hw 82 rfl)) (mvT hZ145 (wd hw 70 rfl)) (notFace_of_selects (args := #[]) (mvT hZ145 (wd hw 72 rfl))) (mvT hZ145 (wd hw 72 rfl)) (mvT hZ145 (wd hw 71 rfl)) (by decide) (StrChars.Road.eqW (W := 0) hZ145 (own_heq hw) (kI := 4) (wd hw 6 rfl) f149 f150 f151 f152 hcd1 hbd1 hl1 A145 Fv145 Fc145 V145 own_lcod2 own_lbd2 own_lle2 S153 hz0 (by decide) (by decide)) q154a q154c (g := (mkF m 29 #[.val (.ref x1)] [(.ref sa145), (.ref x1)])) rfl (by rw [hml]; rfl) (Steps.refl _) (argsL := [(.ref sa145)]) (rest := []) (lenOf pd_5 rfl) rfl (wz rfl) (hb hby d14_29) (fun _ _ => ⟨rfl, e145, (by decide : 6 + 0 ≤ _), (by decide : 64 + 0 ≤ _)⟩)
   dsimp only [Pt.U, Pt.locs, Pt.cells, Pt.slots] at X154 l154 y154 z154 st154 hQ154
   rw [l154, y154, z154] at X154
   obtain ⟨hv154, rfl, e154⟩ := hQ154
   obtain rfl : v154 = some (.int (own_eqs cs1 own_lc2)) := by
    rcases hv154 with ⟨q, r⟩ | ⟨q, r⟩
    ·rw [q, own_eqs, if_pos r]
    ·rw [q, own_eqs, if_neg r]
   have N154 : Fr n0 _ := Fr.app N140 (Fr.nil n0)
   have pre155 : ∀ t, GO p e below T154 (mkF m 32 #[.val (.ref x1)] [(.int (own_eqs cs1 own_lc2))]) t → GO p e below s₁ (entryFrame m #[(.ref x1)] 1) t := by
    intro t kt
    refine pre141 t ?_
    show GO p e below T140 (mkF m 19 #[.val (.ref x1)] [(.int (own_eqs cs1 own_lc1))]) _
    refine XS.ifYes X140.here hx rfl (pc0 := 19) (pc' := 26) rfl (hb hby d14_19) rfl ((if0 _ _).trans (teq (own_eq0 hb142 : (own_eqs cs1 own_lc1) = (0 : Int32))).1) (by decide) (by decide) ?_
    show GO p e below T140 (mkF m 26 #[.val (.ref x1)] []) _
    refine XS.aloadN X140.here hx rfl (hb hby d14_26) rfl rfl ?_
    show GO p e below T140 (mkF m 27 #[.val (.ref x1)] [(.ref x1)]) _
    refine st145 _ ?_
    show GO p e below T145 (mkF m 29 #[.val (.ref x1)] [(.ref sa145), (.ref x1)]) _
    refine st154.trans ?_
    exact kt
   by_cases hb156 : cs1 = own_lc2
   ·have S157 : Sta Z h145 "com/example/rolegrant/rolegrant/policy/Kind" "ROLE" "Lcom/example/rolegrant/rolegrant/policy/Kind;" (.ref u2) := SZs2.ext f147.2
    obtain ⟨T158, X158, e158, st158⟩ := getS2 X154 hx hZ145 hown145 (host := "") (Or.inl (wd hw 119 rfl)) Via.refl e154 S157 (g := (mkF m 35 #[.val (.ref x1)] [])) rfl (hb hby d14_35)
    obtain ⟨fs, hr, hrun, hended, hE⟩ := X158.leaveW hS145 (by rw [e158]; omega) (v := some (.ref u2)) (fun h => by rw [Bd.returns] at h; cases h)
    have CE := C146.trans (CHv.at X158 hZ145 (own_EW hw) C146.1)
    refine ⟨_, _, pre155 _ ?_, hrun, hended, _, _, rfl, ?_, ?_, ⟨hE.1, hE.2.1, hE.2.2.1, hE.2.2.2.mono (by decide) (by decide)⟩⟩
    ·show GO p e below T154 (mkF m 32 #[.val (.ref x1)] [(.int (own_eqs cs1 own_lc2))]) _
     refine XS.ifNo X154.here hx rfl (hb hby d14_32) rfl ((if0 _ _).trans (feq (own_eq1 hb156 : ¬ ((own_eqs cs1 own_lc2) = (0 : Int32)))).1) ?_
     show GO p e below T154 (mkF m 35 #[.val (.ref x1)] []) _
     refine st158 _ ?_
     show GO p e below T158 (mkF m 38 #[.val (.ref x1)] [(.ref u2)]) _
     exact retOut X158 hx Bd.returns rfl (Or.inr (Or.inr (Or.inr (Or.inr ⟨rfl, rfl, rfl⟩)))) (hb hby d14_38) hr
    ·show Qrm_exp Z x1 t1 k1 N1 vs1 cs1 z0 va u0 u1 u2 u3 w0 w1 w2 w3 y0 y1 y2 y3 kV b0 b1 b2 b3 h0 n0 _ T158.heap _
     rw [e158]
     exact ⟨(by simp only [own_pick, if_neg hb128, if_neg hb142, if_pos hb156]), N154, ((((Keep.refl h0 []).ext E117).ext E131).ext E145)⟩
    ·show CHr Z EL1 s.vm s.heap T158.vm T158.heap
     rw [hh, e158]
     exact CE
   ·obtain ⟨sa159, T159, h159, kk159, sb159, sk159, X159, e159, E159, hS159, hk159, hZ159, hown159, A159, Fc159, Fv159, V159, lt159, ltb159, C159w, Lt159, ne159, st159⟩ := ldcCH X154 hx hZ145 hown145 (wd hw 85 rfl) (own_wS hw) e154 hS145 (by omega) (own_EW hw) (by decide) C146.1 (vs := [(.int 112), (.int 114), (.int 105), (.int 118), (.int 105), (.int 108), (.int 101), (.int 103), (.int 101)]) (z := (9 : Int32)) (by decide +kernel) (by decide) (by decide) (g := (mkF m 40 #[.val (.ref x1)] [(.ref x1)])) rfl (hb hby d14_40) (n := 36) (by decide) (by decide) (by decide) (by decide)
    have C160 : CHr Z EL1 s.vm h0 T159.vm h159 := C146.trans (C159w)
    have sz159 : h145.size ≤ h159.size := E159.1
    have nz159 := Nat.le_trans nz145 sz159
    have lv159 := ltA lt159
    have lw159 := ltA ltb159
    have f161 : Old Z n0 h159 := (f147.ext E159)
    have S162 : Exa Z h159 va "[Lcom/example/rolegrant/rolegrant/policy/Kind;" := SZe.ext f161.2
    have nx159_va := ne159 va (Safe.exa hZ159.alike S162 (by decide) (by decide))
    have f163 : Exa Z h159 x1 kS0 := (f149.ext E159)
    have f164 : Fld Z h159 x1 kS0 "value" "[B" (.ref t1) := (f150.ext E159)
    have f165 : Fld Z h159 x1 kS0 "coder" "B" (.int 0) := (f151.ext E159)
    have f166 : Arv Z h159 t1 k1 .byte N1 vs1 (.int 0) := (f152.ext E159)
    have S167 : Sta Z h159 kS0 "COMPACT_STRINGS" "Z" (.int z0) := SZc.ext f161.2
    obtain ⟨cq168, kq168, q168a, q168b, q168c⟩ := isOf hZ159 e159 f163
    obtain ⟨v168, _, ⟨T168, L168, k168, n168⟩, -, X168, ⟨Lc168, hQ168, l168, y168, z168⟩, st168⟩ := X159.virtualBack hx (y := (⟨kS0, "equals", "(Ljava/lang/Object;)Z"⟩ : MethodName)) (z := (⟨kS0, "equals", "(Ljava/lang/Object;)Z"⟩ : MethodName)) hown159 (mvT hZ159 (wd hw 82 rfl)) (mvT hZ159 (wd hw 70 rfl)) (notFace_of_selects (args := #[]) (mvT hZ159 (wd hw 72 rfl))) (mvT hZ159 (wd hw 72 rfl)) (mvT hZ159 (wd hw 71 rfl)) (by decide) (StrChars.Road.eqW (W := 0) hZ159 (own_heq hw) (kI := 4) (wd hw 6 rfl) f163 f164 f165 f166 hcd1 hbd1 hl1 A159 Fv159 Fc159 V159 own_lcod3 own_lbd3 own_lle3 S167 hz0 (by decide) (by decide)) q168a q168c (g := (mkF m 42 #[.val (.ref x1)] [(.ref sa159), (.ref x1)])) rfl (by rw [hml]; rfl) (Steps.refl _) (argsL := [(.ref sa159)]) (rest := []) (lenOf pd_5 rfl) rfl (wz rfl) (hb hby d14_42) (fun _ _ => ⟨rfl, e159, (by decide : 8 + 0 ≤ _), (by decide : 104 + 0 ≤ _)⟩)
    dsimp only [Pt.U, Pt.locs, Pt.cells, Pt.slots] at X168 l168 y168 z168 st168 hQ168
    rw [l168, y168, z168] at X168
    obtain ⟨hv168, rfl, e168⟩ := hQ168
    obtain rfl : v168 = some (.int (own_eqs cs1 own_lc3)) := by
     rcases hv168 with ⟨q, r⟩ | ⟨q, r⟩
     ·rw [q, own_eqs, if_pos r]
     ·rw [q, own_eqs, if_neg r]
    have N168 : Fr n0 _ := Fr.app N154 (Fr.nil n0)
    have pre169 : ∀ t, GO p e below T168 (mkF m 45 #[.val (.ref x1)] [(.int (own_eqs cs1 own_lc3))]) t → GO p e below s₁ (entryFrame m #[(.ref x1)] 1) t := by
     intro t kt
     refine pre155 t ?_
     show GO p e below T154 (mkF m 32 #[.val (.ref x1)] [(.int (own_eqs cs1 own_lc2))]) _
     refine XS.ifYes X154.here hx rfl (pc0 := 32) (pc' := 39) rfl (hb hby d14_32) rfl ((if0 _ _).trans (teq (own_eq0 hb156 : (own_eqs cs1 own_lc2) = (0 : Int32))).1) (by decide) (by decide) ?_
     show GO p e below T154 (mkF m 39 #[.val (.ref x1)] []) _
     refine XS.aloadN X154.here hx rfl (hb hby d14_39) rfl rfl ?_
     show GO p e below T154 (mkF m 40 #[.val (.ref x1)] [(.ref x1)]) _
     refine st159 _ ?_
     show GO p e below T159 (mkF m 42 #[.val (.ref x1)] [(.ref sa159), (.ref x1)]) _
     refine st168.trans ?_
     exact kt
    by_cases hb170 : cs1 = own_lc3
    ·have S171 : Sta Z h159 "com/example/rolegrant/rolegrant/policy/Kind" "PRIVILEGE" "Lcom/example/rolegrant/rolegrant/policy/Kind;" (.ref u3) := SZs3.ext f161.2
     obtain ⟨T172, X172, e172, st172⟩ := getS2 X168 hx hZ159 hown159 (host := "") (Or.inl (wd hw 121 rfl)) Via.refl e168 S171 (g := (mkF m 48 #[.val (.ref x1)] [])) rfl (hb hby d14_48)
     obtain ⟨fs, hr, hrun, hended, hE⟩ := X172.leaveW hS159 (by rw [e172]; omega) (v := some (.ref u3)) (fun h => by rw [Bd.returns] at h; cases h)
     have CE := C160.trans (CHv.at X172 hZ159 (own_EW hw) C160.1)
     refine ⟨_, _, pre169 _ ?_, hrun, hended, _, _, rfl, ?_, ?_, ⟨hE.1, hE.2.1, hE.2.2.1, hE.2.2.2.mono (by decide) (by decide)⟩⟩
     ·show GO p e below T168 (mkF m 45 #[.val (.ref x1)] [(.int (own_eqs cs1 own_lc3))]) _
      refine XS.ifNo X168.here hx rfl (hb hby d14_45) rfl ((if0 _ _).trans (feq (own_eq1 hb170 : ¬ ((own_eqs cs1 own_lc3) = (0 : Int32)))).1) ?_
      show GO p e below T168 (mkF m 48 #[.val (.ref x1)] []) _
      refine st172 _ ?_
      show GO p e below T172 (mkF m 51 #[.val (.ref x1)] [(.ref u3)]) _
      exact retOut X172 hx Bd.returns rfl (Or.inr (Or.inr (Or.inr (Or.inr ⟨rfl, rfl, rfl⟩)))) (hb hby d14_51) hr
     ·show Qrm_exp Z x1 t1 k1 N1 vs1 cs1 z0 va u0 u1 u2 u3 w0 w1 w2 w3 y0 y1 y2 y3 kV b0 b1 b2 b3 h0 n0 _ T172.heap _
      rw [e172]
      exact ⟨(by simp only [own_pick, if_neg hb128, if_neg hb142, if_neg hb156, if_pos hb170]), N168, (((((Keep.refl h0 []).ext E117).ext E131).ext E145).ext E159)⟩
     ·show CHr Z EL1 s.vm s.heap T172.vm T172.heap
      rw [hh, e172]
      exact CE
    ·obtain ⟨fs, hr, hrun, hended, hE⟩ := X168.leaveW hS159 (by rw [e168]; omega) (v := some .null) (fun h => by rw [Bd.returns] at h; cases h)
     have CE := C160.trans (CHv.at X168 hZ159 (own_EW hw) C160.1)
     refine ⟨_, _, pre169 _ ?_, hrun, hended, _, _, rfl, ?_, ?_, ⟨hE.1, hE.2.1, hE.2.2.1, hE.2.2.2.mono (by decide) (by decide)⟩⟩
     ·show GO p e below T168 (mkF m 45 #[.val (.ref x1)] [(.int (own_eqs cs1 own_lc3))]) _
      refine XS.ifYes X168.here hx rfl (pc0 := 45) (pc' := 52) rfl (hb hby d14_45) rfl ((if0 _ _).trans (teq (own_eq0 hb170 : (own_eqs cs1 own_lc3) = (0 : Int32))).1) (by decide) (by decide) ?_
      show GO p e below T168 (mkF m 52 #[.val (.ref x1)] []) _
      refine XS.aconstNull X168.here hx rfl (hb hby d14_52) ?_
      show GO p e below T168 (mkF m 53 #[.val (.ref x1)] [.null]) _
      exact retOut X168 hx Bd.returns rfl (Or.inr (Or.inr (Or.inr (Or.inr ⟨rfl, rfl, rfl⟩)))) (hb hby d14_53) hr
     ·show Qrm_exp Z x1 t1 k1 N1 vs1 cs1 z0 va u0 u1 u2 u3 w0 w1 w2 w3 y0 y1 y2 y3 kV b0 b1 b2 b3 h0 n0 _ T168.heap _
      rw [e168]
      exact ⟨(by simp only [own_pick, if_neg hb128, if_neg hb142, if_neg hb156, if_neg hb170]), N168, (((((Keep.refl h0 []).ext E117).ext E131).ext E145).ext E159)⟩
     ·show CHr Z EL1 s.vm s.heap T168.vm T168.heap
      rw [hh, e168]
      exact CE
def Qrm0 (Z : State) (p0 : Int32) (p1 : Int32) (p2 : Int32) (p3 : Int32) (p4 : Int32) (p5 : Int32) (z0 : Int32) (f0 : Value) (va : Addr) (u0 : Addr) (u1 : Addr) (u2 : Addr) (u3 : Addr) (w0 : Addr) (w1 : Addr) (w2 : Addr) (w3 : Addr) (y0 : Addr) (y1 : Addr) (y2 : Addr) (y3 : Addr) (kV : ClassId) (b0 : ClassId) (b1 : ClassId) (b2 : ClassId) (b3 : ClassId) (h0 : Heap) (n0 : Nat) (v : Option Value) (h : Heap) (L : List Loc) : Prop := v = some (.int 1) ∧ Fr n0 L
theorem ef_rm0 (m : MethodId) (x0 : Int32) (x1 : Int32) (x2 : Int32) (x3 : Int32) (x4 : Int32) (x5 : Int32) : entryFrame m #[(.int x0), (.int x1), (.int x2), (.int x3), (.int x4), (.int x5)] maxLocals = mkF m 0 (la10 x0 x1 x2 x3 x4 x5) [] := by first | (simp [entryFrame, mkF, argsToLocals, Value.category, maxLocals]; done) | rfl
theorem rm0 (l : Launch) (Z : State) (a0 : Array Value) (hw : HW Z a0) (ws : List Jvm.Cond) (p0 : Int32) (p1 : Int32) (p2 : Int32) (p3 : Int32) (p4 : Int32) (p5 : Int32) (z0 : Int32) (f0 : Value) (va : Addr) (u0 : Addr) (u1 : Addr) (u2 : Addr) (u3 : Addr) (w0 : Addr) (w1 : Addr) (w2 : Addr) (w3 : Addr) (y0 : Addr) (y1 : Addr) (y2 : Addr) (y3 : Addr) (kV : ClassId) (b0 : ClassId) (b1 : ClassId) (b2 : ClassId) (b3 : ClassId) (h0 : Heap) (n0 : Nat) (Z0 : n0 ≤ h0.size) (O0 : Old Z n0 h0) (SZc : Sta Z Z.heap kS0 "COMPACT_STRINGS" "Z" (.int z0)) (hz0 : ¬ z0 = 0) (SZf : Sta Z Z.heap "jdk/internal/util/Preconditions" "SIOOBE_FORMATTER" "Ljava/util/function/BiFunction;" f0) (rf0 : f0.isRef = true) (HK : OwnK Z va u0 u1 u2 u3 w0 w1 w2 w3 y0 y1 y2 y3 kV b0 b1 b2 b3) :
  OwnW l Z h0 x (Jvm.Cond.code x code maxLocals ret :: ws) room_1 #[(.int p0), (.int p1), (.int p2), (.int p3), (.int p4), (.int p5)] [] (Qrm0 Z p0 p1 p2 p3 p4 p5 z0 f0 va u0 u1 u2 u3 w0 w1 w2 w3 y0 y1 y2 y3 kV b0 b1 b2 b3 h0 n0) := by
 refine MetFree.of_bodySF (plainFor_of_name pn_0) hisR ?_
 intro p e s m args below meth c s₁ Bd hml0 hP hK
 obtain ⟨rfl, hZ, hh, H0, sf⟩ := hP
 have hx := Bd.exec
 have hby := Bd.bytes
 have hml : c.maxLocals = 14 := hml0
 have hown : s.vm.findClass kS1 = some m.cls := findClass_of_methodNamed Bd.named
 have hnm := (name_of_methodNamed Bd.named Bd.method).1
 have X0 : Stand p l e room_1 (s.setVm s.vm) m #[(.int p0), (.int p1), (.int p2), (.int p3), (.int p4), (.int p5)] below meth c s₁ [] 0 0 := Stand.of_body Bd
 have hS0 : s.Since s.vm h0.size := (State.WarmedH.refl s).since _
 have C0 : CHr Z EL1 s.vm h0 s.vm h0 := CHr.refl H0
 have e0 : s₁.heap = h0 := by rw [← hh, Bd.state]; rfl
 have N0 := Fr.nil n0
 have pre0 : ∀ t, GO p e below s₁ (mkF m 0 (la10 p0 p1 p2 p3 p4 p5) []) t → GO p e below s₁ (entryFrame m #[(.int p0), (.int p1), (.int p2), (.int p3), (.int p4), (.int p5)] maxLocals) t := fun t k => castTop (ef_rm0 m p0 p1 p2 p3 p4 p5) k
 have pre173 : ∀ t, GO p e below s₁ (mkF m 3 (la10 p0 p1 p2 p3 p4 p5) [(.int (p0 &&& (1 : Int32)))]) t → GO p e below s₁ (entryFrame m #[(.int p0), (.int p1), (.int p2), (.int p3), (.int p4), (.int p5)] maxLocals) t := by
  intro t kt
  refine pre0 t ?_
  show GO p e below s₁ (mkF m 0 (la10 p0 p1 p2 p3 p4 p5) []) _
  refine XS.iloadN X0.here hx rfl (hb hby at_0) rfl ?_
  show GO p e below s₁ (mkF m 1 (la10 p0 p1 p2 p3 p4 p5) [(.int p0)]) _
  refine XS.iconst X0.here hx rfl (hb hby at_1) ?_
  show GO p e below s₁ (mkF m 2 (la10 p0 p1 p2 p3 p4 p5) [(.int 1), (.int p0)]) _
  refine XS.iand X0.here hx rfl (hb hby at_2) rfl ?_
  exact kt
 obtain ⟨uw, huw, pre174⟩ : ∃ uw : Int32, (True) ∧ ∀ t, GO p e below s₁ (mkF m 11 (la10 p0 p1 p2 p3 p4 p5) [(.int uw)]) t → GO p e below s₁ (entryFrame m #[(.int p0), (.int p1), (.int p2), (.int p3), (.int p4), (.int p5)] maxLocals) t := by
  by_cases hb175 : (p0 &&& (1 : Int32)) = (0 : Int32)
  ·have pre176 : ∀ t, GO p e below s₁ (mkF m 11 (la10 p0 p1 p2 p3 p4 p5) [(.int 0)]) t → GO p e below s₁ (entryFrame m #[(.int p0), (.int p1), (.int p2), (.int p3), (.int p4), (.int p5)] maxLocals) t := by
    intro t kt
    refine pre173 t ?_
    show GO p e below s₁ (mkF m 3 (la10 p0 p1 p2 p3 p4 p5) [(.int (p0 &&& (1 : Int32)))]) _
    refine XS.ifYes X0.here hx rfl (pc0 := 3) (pc' := 10) rfl (hb hby at_3) rfl ((if0 _ _).trans (teq (hb175 : (p0 &&& (1 : Int32)) = (0 : Int32))).1) (by decide) (by decide) ?_
    show GO p e below s₁ (mkF m 10 (la10 p0 p1 p2 p3 p4 p5) []) _
    refine XS.iconst X0.here hx rfl (hb hby at_10) ?_
    exact kt
   exact ⟨(0 : Int32), trivial, fun t kt => pre176 t kt⟩
  ·have pre177 : ∀ t, GO p e below s₁ (mkF m 11 (la10 p0 p1 p2 p3 p4 p5) [(.int 1)]) t → GO p e below s₁ (entryFrame m #[(.int p0), (.int p1), (.int p2), (.int p3), (.int p4), (.int p5)] maxLocals) t := by
    intro t kt
    refine pre173 t ?_
    show GO p e below s₁ (mkF m 3 (la10 p0 p1 p2 p3 p4 p5) [(.int (p0 &&& (1 : Int32)))]) _
    refine XS.ifNo X0.here hx rfl (hb hby at_3) rfl ((if0 _ _).trans (feq (hb175 : ¬ ((p0 &&& (1 : Int32)) = (0 : Int32)))).1) ?_
    show GO p e below s₁ (mkF m 6 (la10 p0 p1 p2 p3 p4 p5) []) _
    refine XS.iconst X0.here hx rfl (hb hby at_6) ?_
    show GO p e below s₁ (mkF m 7 (la10 p0 p1 p2 p3 p4 p5) [(.int 1)]) _
    refine XS.goto X0.here hx rfl (pc0 := 7) (pc' := 11) rfl (hb hby at_7) (by decide) (by decide) ?_
    exact kt
   exact ⟨(1 : Int32), trivial, fun t kt => pre177 t kt⟩
 have pre178 : ∀ t, GO p e below s₁ (mkF m 16 (la11 p0 p1 p2 p3 p4 p5 uw) [(.int (p0 &&& (2 : Int32)))]) t → GO p e below s₁ (entryFrame m #[(.int p0), (.int p1), (.int p2), (.int p3), (.int p4), (.int p5)] maxLocals) t := by
  intro t kt
  refine pre174 t ?_
  show GO p e below s₁ (mkF m 11 (la10 p0 p1 p2 p3 p4 p5) [(.int uw)]) _
  refine XS.istore X0.here hx rfl (hb hby at_11) rfl (l' := (la11 p0 p1 p2 p3 p4 p5 uw)) rfl ?_
  show GO p e below s₁ (mkF m 13 (la11 p0 p1 p2 p3 p4 p5 uw) []) _
  refine XS.iloadN X0.here hx rfl (hb hby at_13) rfl ?_
  show GO p e below s₁ (mkF m 14 (la11 p0 p1 p2 p3 p4 p5 uw) [(.int p0)]) _
  refine XS.iconst X0.here hx rfl (hb hby at_14) ?_
  show GO p e below s₁ (mkF m 15 (la11 p0 p1 p2 p3 p4 p5 uw) [(.int 2), (.int p0)]) _
  refine XS.iand X0.here hx rfl (hb hby at_15) rfl ?_
  exact kt
 obtain ⟨xl, hxl, pre179⟩ : ∃ xl : Int32, (True) ∧ ∀ t, GO p e below s₁ (mkF m 24 (la11 p0 p1 p2 p3 p4 p5 uw) [(.int xl)]) t → GO p e below s₁ (entryFrame m #[(.int p0), (.int p1), (.int p2), (.int p3), (.int p4), (.int p5)] maxLocals) t := by
  by_cases hb180 : (p0 &&& (2 : Int32)) = (0 : Int32)
  ·have pre181 : ∀ t, GO p e below s₁ (mkF m 24 (la11 p0 p1 p2 p3 p4 p5 uw) [(.int 0)]) t → GO p e below s₁ (entryFrame m #[(.int p0), (.int p1), (.int p2), (.int p3), (.int p4), (.int p5)] maxLocals) t := by
    intro t kt
    refine pre178 t ?_
    show GO p e below s₁ (mkF m 16 (la11 p0 p1 p2 p3 p4 p5 uw) [(.int (p0 &&& (2 : Int32)))]) _
    refine XS.ifYes X0.here hx rfl (pc0 := 16) (pc' := 23) rfl (hb hby at_16) rfl ((if0 _ _).trans (teq (hb180 : (p0 &&& (2 : Int32)) = (0 : Int32))).1) (by decide) (by decide) ?_
    show GO p e below s₁ (mkF m 23 (la11 p0 p1 p2 p3 p4 p5 uw) []) _
    refine XS.iconst X0.here hx rfl (hb hby at_23) ?_
    exact kt
   exact ⟨(0 : Int32), trivial, fun t kt => pre181 t kt⟩
  ·have pre182 : ∀ t, GO p e below s₁ (mkF m 24 (la11 p0 p1 p2 p3 p4 p5 uw) [(.int 1)]) t → GO p e below s₁ (entryFrame m #[(.int p0), (.int p1), (.int p2), (.int p3), (.int p4), (.int p5)] maxLocals) t := by
    intro t kt
    refine pre178 t ?_
    show GO p e below s₁ (mkF m 16 (la11 p0 p1 p2 p3 p4 p5 uw) [(.int (p0 &&& (2 : Int32)))]) _
    refine XS.ifNo X0.here hx rfl (hb hby at_16) rfl ((if0 _ _).trans (feq (hb180 : ¬ ((p0 &&& (2 : Int32)) = (0 : Int32)))).1) ?_
    show GO p e below s₁ (mkF m 19 (la11 p0 p1 p2 p3 p4 p5 uw) []) _
    refine XS.iconst X0.here hx rfl (hb hby at_19) ?_
    show GO p e below s₁ (mkF m 20 (la11 p0 p1 p2 p3 p4 p5 uw) [(.int 1)]) _
    refine XS.goto X0.here hx rfl (pc0 := 20) (pc' := 24) rfl (hb hby at_20) (by decide) (by decide) ?_
    exact kt
   exact ⟨(1 : Int32), trivial, fun t kt => pre182 t kt⟩
 -- pc 31: KindNamedPinLaw.word by rm_word
 obtain ⟨_, _, ⟨T183, L183, k183, n183⟩, -, X183w, hS183w, gr183, ⟨Lc183, hQ183, l183, y183, z183, C183w⟩, st183⟩ := callSS X0 hx (y := (⟨kS1, "word", "(I)Ljava/lang/String;"⟩ : MethodName)) hown (mvT hZ (wd hw 0 rfl)) (mvT hZ (wd hw 1 rfl)) (mvT hZ (wd hw 2 rfl)) (mvT hZ (wd hw 3 rfl)) (by decide) (own_backS (W := 0) (rm_word l Z a0 hw [] (((p0.toUInt32 >>> ((2 : Int32) &&& 31).toUInt32).toInt32) &&& (3 : Int32)) h0 n0 Z0) hZ (wd hw 3 rfl) (wd hw 2 rfl) (by decide) (by decide) (own_EW hw) C0.1 sf0 all0) (g := (mkF m 31 (la12 p0 p1 p2 p3 p4 p5 uw xl) [(.int (((p0.toUInt32 >>> ((2 : Int32) &&& 31).toUInt32).toInt32) &&& (3 : Int32)))])) rfl (by rw [hml]; rfl) (argsL := [(.int (((p0.toUInt32 >>> ((2 : Int32) &&& 31).toUInt32).toInt32) &&& (3 : Int32)))]) (rest := []) (lenOf pd_6 rfl) rfl (wz rfl) (hb hby at_31) (fun _ _ => ⟨rfl, e0, (by decide : 0 + 2 ≤ _), (by decide : 0 + 40 ≤ _)⟩)
 dsimp only [Pt.U, Pt.locs, Pt.cells, Pt.slots] at X183w hS183w gr183 l183 y183 z183 st183 hQ183 C183w
 rw [l183, y183, z183] at X183w
 obtain ⟨X183, hS183, hZ183, hown183⟩ := rebS hS0 (by rw [e0]; omega) X183w hS183w gr183 hZ hown
 obtain ⟨h183, e183⟩ : ∃ z, T183.heap = z := ⟨_, rfl⟩
 rw [e183] at hQ183
 obtain ⟨r_183, t_183, k_183, N_183, vs_183, cs_183, rfl, N183q, K183, p183_0, p183_1, p183_2, p183_3, r183_0, r183_1, r183_2, r183_3, r183_4⟩ := hQ183
 have N183 := Fr.app N0 N183q
 rw [e183] at C183w hS183
 have hk183 : h183.size ≤ h183.size := Nat.le_refl _
 have C184 : CHr Z EL1 s.vm h0 T183.vm h183 := C0.trans (C183w)
 have sz183 : h0.size ≤ h183.size := K183.1
 have nz183 := Nat.le_trans Z0 sz183
 have lt183_0 := ltA p183_0.lt
 have lt183_3 := ltA p183_3.lt
 have pre185 : ∀ t, GO p e below T183 (mkF m 38 (la13 p0 p1 p2 p3 p4 p5 uw xl r_183) [(.int uw)]) t → GO p e below s₁ (entryFrame m #[(.int p0), (.int p1), (.int p2), (.int p3), (.int p4), (.int p5)] maxLocals) t := by
  intro t kt
  refine pre179 t ?_
  show GO p e below s₁ (mkF m 24 (la11 p0 p1 p2 p3 p4 p5 uw) [(.int xl)]) _
  refine XS.istore X0.here hx rfl (hb hby at_24) rfl (l' := (la12 p0 p1 p2 p3 p4 p5 uw xl)) rfl ?_
  show GO p e below s₁ (mkF m 26 (la12 p0 p1 p2 p3 p4 p5 uw xl) []) _
  refine XS.iloadN X0.here hx rfl (hb hby at_26) rfl ?_
  show GO p e below s₁ (mkF m 27 (la12 p0 p1 p2 p3 p4 p5 uw xl) [(.int p0)]) _
  refine XS.iconst X0.here hx rfl (hb hby at_27) ?_
  show GO p e below s₁ (mkF m 28 (la12 p0 p1 p2 p3 p4 p5 uw xl) [(.int 2), (.int p0)]) _
  refine XS.iushr X0.here hx rfl (hb hby at_28) rfl ?_
  show GO p e below s₁ (mkF m 29 (la12 p0 p1 p2 p3 p4 p5 uw xl) [(.int ((p0.toUInt32 >>> ((2 : Int32) &&& 31).toUInt32).toInt32))]) _
  refine XS.iconst X0.here hx rfl (hb hby at_29) ?_
  show GO p e below s₁ (mkF m 30 (la12 p0 p1 p2 p3 p4 p5 uw xl) [(.int 3), (.int ((p0.toUInt32 >>> ((2 : Int32) &&& 31).toUInt32).toInt32))]) _
  refine XS.iand X0.here hx rfl (hb hby at_30) rfl ?_
  show GO p e below s₁ (mkF m 31 (la12 p0 p1 p2 p3 p4 p5 uw xl) [(.int (((p0.toUInt32 >>> ((2 : Int32) &&& 31).toUInt32).toInt32) &&& (3 : Int32)))]) _
  refine st183.trans ?_
  show GO p e below T183 (mkF m 34 (la12 p0 p1 p2 p3 p4 p5 uw xl) [(.ref r_183)]) _
  refine XS.astore X183.here hx rfl (hb hby at_34) rfl rfl (l' := (la13 p0 p1 p2 p3 p4 p5 uw xl r_183)) rfl ?_
  show GO p e below T183 (mkF m 36 (la13 p0 p1 p2 p3 p4 p5 uw xl r_183) []) _
  refine XS.iload X183.here hx rfl (hb hby at_36) rfl ?_
  exact kt
 obtain ⟨nn, T186, Lj186, X186, e186, N186, hnn, pre186⟩ : ∃ (nn : Int32) (T' : State) (L' : List Loc), Stand p l e room_1 (s.setVm T183.vm) m #[(.int p0), (.int p1), (.int p2), (.int p3), (.int p4), (.int p5)] below meth c T' L' 2 40 ∧ T'.heap = h183 ∧ Fr n0 L' ∧ (nn = (0 : Int32) ∨ nn = (1 : Int32) ∨ nn = (2 : Int32) ∨ nn = (3 : Int32) ∨ nn = (4 : Int32) ∨ nn = (5 : Int32) ∨ nn = (6 : Int32) ∨ nn = (7 : Int32) ∨ nn = (8 : Int32) ∨ nn = (9 : Int32) ∨ nn = (10 : Int32)) ∧ ∀ t, GO p e below T' (mkF m 61 (la13 p0 p1 p2 p3 p4 p5 uw xl r_183) [(.int nn)]) t → GO p e below s₁ (entryFrame m #[(.int p0), (.int p1), (.int p2), (.int p3), (.int p4), (.int p5)] maxLocals) t := by
  by_cases hb187 : uw = (0 : Int32)
  ·have pre188 : ∀ t, GO p e below T183 (mkF m 61 (la13 p0 p1 p2 p3 p4 p5 uw xl r_183) [(.int ((p1 &&& (2147483647 : Int32)) % (11 : Int32)))]) t → GO p e below s₁ (entryFrame m #[(.int p0), (.int p1), (.int p2), (.int p3), (.int p4), (.int p5)] maxLocals) t := by
    intro t kt
    refine pre185 t ?_
    show GO p e below T183 (mkF m 38 (la13 p0 p1 p2 p3 p4 p5 uw xl r_183) [(.int uw)]) _
    refine XS.ifYes X183.here hx rfl (pc0 := 38) (pc' := 54) rfl (hb hby at_38) rfl ((if0 _ _).trans (teq (hb187 : uw = (0 : Int32))).1) (by decide) (by decide) ?_
    show GO p e below T183 (mkF m 54 (la13 p0 p1 p2 p3 p4 p5 uw xl r_183) []) _
    refine XS.iloadN X183.here hx rfl (hb hby at_54) rfl ?_
    show GO p e below T183 (mkF m 55 (la13 p0 p1 p2 p3 p4 p5 uw xl r_183) [(.int p1)]) _
    refine X183.ldcInt hx hown183 (mvT hZ183 (wd hw 12 rfl)) (g := (mkF m 55 (la13 p0 p1 p2 p3 p4 p5 uw xl r_183) [(.int p1)])) rfl (hb hby at_55) _ ?_
    show GO p e below T183 (mkF m 57 (la13 p0 p1 p2 p3 p4 p5 uw xl r_183) [(.int 2147483647), (.int p1)]) _
    refine XS.iand X183.here hx rfl (hb hby at_57) rfl ?_
    show GO p e below T183 (mkF m 58 (la13 p0 p1 p2 p3 p4 p5 uw xl r_183) [(.int (p1 &&& (2147483647 : Int32)))]) _
    refine XS.bipush X183.here hx rfl (hb hby at_58) ?_
    show GO p e below T183 (mkF m 60 (la13 p0 p1 p2 p3 p4 p5 uw xl r_183) [(.int 11), (.int (p1 &&& (2147483647 : Int32)))]) _
    refine iremM X183 hx rfl (hb hby at_60) rfl (by decide) ?_
    exact kt
   exact ⟨((p1 &&& (2147483647 : Int32)) % (11 : Int32)), T183, _, X183, e183, N183, (own_n11 p1), fun t kt => pre188 t kt⟩
  ·have pre189 : ∀ t, GO p e below T183 (mkF m 43 (la13 p0 p1 p2 p3 p4 p5 uw xl r_183) [(.int xl)]) t → GO p e below s₁ (entryFrame m #[(.int p0), (.int p1), (.int p2), (.int p3), (.int p4), (.int p5)] maxLocals) t := by
    intro t kt
    refine pre185 t ?_
    show GO p e below T183 (mkF m 38 (la13 p0 p1 p2 p3 p4 p5 uw xl r_183) [(.int uw)]) _
    refine XS.ifNo X183.here hx rfl (hb hby at_38) rfl ((if0 _ _).trans (feq (hb187 : ¬ (uw = (0 : Int32)))).1) ?_
    show GO p e below T183 (mkF m 41 (la13 p0 p1 p2 p3 p4 p5 uw xl r_183) []) _
    refine XS.iload X183.here hx rfl (hb hby at_41) rfl ?_
    exact kt
   by_cases hb190 : xl = (0 : Int32)
   ·have pre191 : ∀ t, GO p e below T183 (mkF m 61 (la13 p0 p1 p2 p3 p4 p5 uw xl r_183) [(.int ((p1 &&& (2147483647 : Int32)) % (11 : Int32)))]) t → GO p e below s₁ (entryFrame m #[(.int p0), (.int p1), (.int p2), (.int p3), (.int p4), (.int p5)] maxLocals) t := by
     intro t kt
     refine pre189 t ?_
     show GO p e below T183 (mkF m 43 (la13 p0 p1 p2 p3 p4 p5 uw xl r_183) [(.int xl)]) _
     refine XS.ifYes X183.here hx rfl (pc0 := 43) (pc' := 54) rfl (hb hby at_43) rfl ((if0 _ _).trans (teq (hb190 : xl = (0 : Int32))).1) (by decide) (by decide) ?_
     show GO p e below T183 (mkF m 54 (la13 p0 p1 p2 p3 p4 p5 uw xl r_183) []) _
     refine XS.iloadN X183.here hx rfl (hb hby at_54) rfl ?_
     show GO p e below T183 (mkF m 55 (la13 p0 p1 p2 p3 p4 p5 uw xl r_183) [(.int p1)]) _
     refine X183.ldcInt hx hown183 (mvT hZ183 (wd hw 12 rfl)) (g := (mkF m 55 (la13 p0 p1 p2 p3 p4 p5 uw xl r_183) [(.int p1)])) rfl (hb hby at_55) _ ?_
     show GO p e below T183 (mkF m 57 (la13 p0 p1 p2 p3 p4 p5 uw xl r_183) [(.int 2147483647), (.int p1)]) _
     refine XS.iand X183.here hx rfl (hb hby at_57) rfl ?_
     show GO p e below T183 (mkF m 58 (la13 p0 p1 p2 p3 p4 p5 uw xl r_183) [(.int (p1 &&& (2147483647 : Int32)))]) _
     refine XS.bipush X183.here hx rfl (hb hby at_58) ?_
     show GO p e below T183 (mkF m 60 (la13 p0 p1 p2 p3 p4 p5 uw xl r_183) [(.int 11), (.int (p1 &&& (2147483647 : Int32)))]) _
     refine iremM X183 hx rfl (hb hby at_60) rfl (by decide) ?_
     exact kt
    exact ⟨((p1 &&& (2147483647 : Int32)) % (11 : Int32)), T183, _, X183, e183, N183, (own_n11 p1), fun t kt => pre191 t kt⟩
   ·have f192 : Old Z n0 h183 := (O0.keep K183 all0)
    have S193 : Sta Z h183 kS0 "COMPACT_STRINGS" "Z" (.int z0) := SZc.ext f192.2
    obtain ⟨cq194, kq194, q194a, q194b, q194c⟩ := isOf hZ183 e183 p183_0
    obtain ⟨v194, _, ⟨T194, L194, k194, n194⟩, -, X194, ⟨Lc194, hQ194, l194, y194, z194⟩, st194⟩ := X183.virtualBack hx (y := (⟨kS0, "length", "()I"⟩ : MethodName)) (z := (⟨kS0, "length", "()I"⟩ : MethodName)) hown183 (mvT hZ183 (wd hw 86 rfl)) (mvT hZ183 (wd hw 87 rfl)) (notFace_of_selects (args := #[]) (mvT hZ183 (wd hw 89 rfl))) (mvT hZ183 (wd hw 89 rfl)) (mvT hZ183 (wd hw 88 rfl)) (by decide) (StrChars.Road.lenW (W := 0) hZ183 (own_hln hw) (kI := 4) (wd hw 6 rfl) p183_0 p183_2 p183_1 p183_3 r183_0 r183_1 S193 hz0 r183_2 (by decide) (by decide)) q194a q194c (g := (mkF m 48 (la13 p0 p1 p2 p3 p4 p5 uw xl r_183) [(.ref r_183)])) rfl (by rw [hml]; rfl) (Steps.refl _) (argsL := []) (rest := []) (lenOf pd_1 rfl) rfl (wz rfl) (hb hby at_48) (fun _ _ => ⟨rfl, e183, (by decide : 2 + 0 ≤ _), (by decide : 40 + 0 ≤ _)⟩)
    dsimp only [Pt.U, Pt.locs, Pt.cells, Pt.slots] at X194 l194 y194 z194 st194 hQ194
    rw [l194, y194, z194] at X194
    obtain ⟨rfl, rfl, e194⟩ := hQ194
    have N194 : Fr n0 _ := Fr.app N183 (Fr.nil n0)
    have pre195 : ∀ t, GO p e below T194 (mkF m 61 (la13 p0 p1 p2 p3 p4 p5 uw xl r_183) [(.int (Int32.ofNat (cs_183).length))]) t → GO p e below s₁ (entryFrame m #[(.int p0), (.int p1), (.int p2), (.int p3), (.int p4), (.int p5)] maxLocals) t := by
     intro t kt
     refine pre189 t ?_
     show GO p e below T183 (mkF m 43 (la13 p0 p1 p2 p3 p4 p5 uw xl r_183) [(.int xl)]) _
     refine XS.ifNo X183.here hx rfl (hb hby at_43) rfl ((if0 _ _).trans (feq (hb190 : ¬ (xl = (0 : Int32)))).1) ?_
     show GO p e below T183 (mkF m 46 (la13 p0 p1 p2 p3 p4 p5 uw xl r_183) []) _
     refine XS.aload X183.here hx rfl (hb hby at_46) rfl rfl ?_
     show GO p e below T183 (mkF m 48 (la13 p0 p1 p2 p3 p4 p5 uw xl r_183) [(.ref r_183)]) _
     refine st194.trans ?_
     show GO p e below T194 (mkF m 51 (la13 p0 p1 p2 p3 p4 p5 uw xl r_183) [(.int (Int32.ofNat (cs_183).length))]) _
     refine XS.goto X194.here hx rfl (pc0 := 51) (pc' := 61) rfl (hb hby at_51) (by decide) (by decide) ?_
     exact kt
    exact ⟨(Int32.ofNat (cs_183).length), T194, _, X194, e194, N194, (own_nlen r183_4), fun t kt => pre195 t kt⟩
 obtain ⟨pp, hpp⟩ : ∃ z, z = ((p2 &&& (2147483647 : Int32)) % (16 : Int32)) := ⟨_, rfl⟩
 obtain ⟨xx, hxx⟩ : ∃ z, z = ((((p2.toUInt32 >>> ((16 : Int32) &&& 31).toUInt32).toInt32) &&& (255 : Int32)).toUInt32.toUInt16.toUInt32.toInt32) := ⟨_, rfl⟩
 obtain ⟨rxx, qxx⟩ : ((¬ xx < 0 ∧ ¬ (255 : Int32) < xx)) ∧ nar .char xx = xx := by rw [hxx]; exact own_ch _
 have pre196 : ∀ t, GO p e below T186 (mkF m 83 (la16 p0 p1 p2 p3 p4 p5 uw xl r_183 nn pp xx) []) t → GO p e below s₁ (entryFrame m #[(.int p0), (.int p1), (.int p2), (.int p3), (.int p4), (.int p5)] maxLocals) t := by
  intro t kt
  refine pre186 t ?_
  show GO p e below T186 (mkF m 61 (la13 p0 p1 p2 p3 p4 p5 uw xl r_183) [(.int nn)]) _
  refine XS.istore X186.here hx rfl (hb hby at_61) rfl (l' := (la14 p0 p1 p2 p3 p4 p5 uw xl r_183 nn)) rfl ?_
  show GO p e below T186 (mkF m 63 (la14 p0 p1 p2 p3 p4 p5 uw xl r_183 nn) []) _
  refine XS.iloadN X186.here hx rfl (hb hby at_63) rfl ?_
  show GO p e below T186 (mkF m 64 (la14 p0 p1 p2 p3 p4 p5 uw xl r_183 nn) [(.int p2)]) _
  refine X186.ldcInt hx hown183 (mvT hZ183 (wd hw 12 rfl)) (g := (mkF m 64 (la14 p0 p1 p2 p3 p4 p5 uw xl r_183 nn) [(.int p2)])) rfl (hb hby at_64) _ ?_
  show GO p e below T186 (mkF m 66 (la14 p0 p1 p2 p3 p4 p5 uw xl r_183 nn) [(.int 2147483647), (.int p2)]) _
  refine XS.iand X186.here hx rfl (hb hby at_66) rfl ?_
  show GO p e below T186 (mkF m 67 (la14 p0 p1 p2 p3 p4 p5 uw xl r_183 nn) [(.int (p2 &&& (2147483647 : Int32)))]) _
  refine XS.bipush X186.here hx rfl (hb hby at_67) ?_
  show GO p e below T186 (mkF m 69 (la14 p0 p1 p2 p3 p4 p5 uw xl r_183 nn) [(.int 16), (.int (p2 &&& (2147483647 : Int32)))]) _
  refine iremM X186 hx rfl (hb hby at_69) rfl (by decide) ?_
  show GO p e below T186 (mkF m 70 (la14 p0 p1 p2 p3 p4 p5 uw xl r_183 nn) [(.int ((p2 &&& (2147483647 : Int32)) % (16 : Int32)))]) _
  refine XS.istore X186.here hx rfl (hb hby at_70) rfl (l' := (la15 p0 p1 p2 p3 p4 p5 uw xl r_183 nn ((p2 &&& (2147483647 : Int32)) % (16 : Int32)))) rfl ?_
  show GO p e below T186 (mkF m 72 (la15 p0 p1 p2 p3 p4 p5 uw xl r_183 nn ((p2 &&& (2147483647 : Int32)) % (16 : Int32))) []) _
  refine XS.iloadN X186.here hx rfl (hb hby at_72) rfl ?_
  show GO p e below T186 (mkF m 73 (la15 p0 p1 p2 p3 p4 p5 uw xl r_183 nn ((p2 &&& (2147483647 : Int32)) % (16 : Int32))) [(.int p2)]) _
  refine XS.bipush X186.here hx rfl (hb hby at_73) ?_
  show GO p e below T186 (mkF m 75 (la15 p0 p1 p2 p3 p4 p5 uw xl r_183 nn ((p2 &&& (2147483647 : Int32)) % (16 : Int32))) [(.int 16), (.int p2)]) _
  refine XS.iushr X186.here hx rfl (hb hby at_75) rfl ?_
  show GO p e below T186 (mkF m 76 (la15 p0 p1 p2 p3 p4 p5 uw xl r_183 nn ((p2 &&& (2147483647 : Int32)) % (16 : Int32))) [(.int ((p2.toUInt32 >>> ((16 : Int32) &&& 31).toUInt32).toInt32))]) _
  refine XS.sipush X186.here hx rfl (hb hby at_76) ?_
  show GO p e below T186 (mkF m 79 (la15 p0 p1 p2 p3 p4 p5 uw xl r_183 nn ((p2 &&& (2147483647 : Int32)) % (16 : Int32))) [(.int 255), (.int ((p2.toUInt32 >>> ((16 : Int32) &&& 31).toUInt32).toInt32))]) _
  refine XS.iand X186.here hx rfl (hb hby at_79) rfl ?_
  show GO p e below T186 (mkF m 80 (la15 p0 p1 p2 p3 p4 p5 uw xl r_183 nn ((p2 &&& (2147483647 : Int32)) % (16 : Int32))) [(.int (((p2.toUInt32 >>> ((16 : Int32) &&& 31).toUInt32).toInt32) &&& (255 : Int32)))]) _
  refine XS.i2c X186.here hx rfl (hb hby at_80) rfl ?_
  show GO p e below T186 (mkF m 81 (la15 p0 p1 p2 p3 p4 p5 uw xl r_183 nn ((p2 &&& (2147483647 : Int32)) % (16 : Int32))) [(.int ((((p2.toUInt32 >>> ((16 : Int32) &&& 31).toUInt32).toInt32) &&& (255 : Int32)).toUInt32.toUInt16.toUInt32.toInt32))]) _
  refine XS.istore X186.here hx rfl (hb hby at_81) rfl (l' := (la16 p0 p1 p2 p3 p4 p5 uw xl r_183 nn ((p2 &&& (2147483647 : Int32)) % (16 : Int32)) ((((p2.toUInt32 >>> ((16 : Int32) &&& 31).toUInt32).toInt32) &&& (255 : Int32)).toUInt32.toUInt16.toUInt32.toInt32))) rfl ?_
  rw [← hpp]
  rw [← hxx]
  exact kt
 rcases hnn with rfl | rfl | rfl | rfl | rfl | rfl | rfl | rfl | rfl | rfl | rfl
 ·obtain ⟨T197, h197, k197, X197, e197, E197, A197, st197⟩ := newP X186 hx hZ183 (wd hw 13 rfl) e186 (g := (mkF m 85 (la16 p0 p1 p2 p3 p4 p5 uw xl r_183 (0 : Int32) pp xx) [(.int 0)])) rfl (hb hby at_85) rfl (by decide) (cap := 0) (by decide) (by decide) (by decide) (by decide)
  obtain ⟨b197, g197⟩ : ∃ z, z = h183.size := ⟨_, rfl⟩
  rw [← g197] at A197 st197
  have C198 : CHr Z EL1 s.vm h0 T183.vm h197 := C184.trans (CHr.ext E197 C184.1)
  have sz197 : h183.size ≤ h197.size := E197.1
  have nz197 := Nat.le_trans nz183 sz197
  have lt197 := ltA A197.lt
  have V197 : Arv Z h197 b197 k197 .char (0 : Int32) [] (.int 0) := Arv.new A197 (by decide)
  obtain ⟨T199, h199, X199, e199, E199, A199, D199, U199, st199⟩ := newO X197 hx hZ183 hown183 (wd hw 20 rfl) (wd hw 6 rfl) (wd hw 5 rfl) e197 (g := (mkF m 370 (la17 p0 p1 p2 p3 p4 p5 uw xl r_183 (0 : Int32) pp xx b197) [])) rfl (hb hby at_370) (by decide) (by decide)
  obtain ⟨b199, g199⟩ : ∃ z, z = h197.size := ⟨_, rfl⟩
  rw [← g199] at A199 D199 U199 st199
  have C200 : CHr Z EL1 s.vm h0 T183.vm h199 := C198.trans (CHr.ext E199 C198.1)
  have sz199 : h197.size ≤ h199.size := E199.1
  have nz199 := Nat.le_trans nz197 sz199
  have lt199 := ltA A199.lt
  have B199 : Safe Z EL1 T183.vm h199 b199 := Safe.ext E199 C198.1 (Safe.new (by omega))
  have f201 : Fld Z h199 b199 kS0 "value" "[B" .null := D199 (Or.inr (wd hw 8 rfl)) (ty := (.array .byte)) (by decide)
  have f202 : Fld Z h199 b199 kS0 "coder" "B" (.int 0) := D199 (Or.inr (wd hw 9 rfl)) (ty := .byte) (by decide)
  -- pc 376: String.<init> by rm_si
  have f204 : Arv Z h199 b197 k197 .char (0 : Int32) [] (.int 0) := (V197.ext E199)
  obtain ⟨_, _, ⟨T203, L203, k203, n203⟩, -, X203w, hS203w, gr203, ⟨Lc203, hQ203, l203, y203, z203, C203w⟩, st203⟩ := X199.specialBackS hx (y := (⟨kS0, "<init>", "([C)V"⟩ : MethodName)) rfl hown183 (mvT hZ183 (wd hw 21 rfl)) (mvT hZ183 (wd hw 22 rfl)) (mvT hZ183 (wd hw 23 rfl)) (by decide) (own_backS (W := 1) (rm_si l Z a0 hw [] b199 b197 .null (.int 0) k197 [] h199 n0 nz199 A199 f201 f202 f204 (by first | assumption | decide | omega)) hZ183 (wd hw 23 rfl) (wd hw 5 rfl) (by decide) (by decide) (own_EW hw) C200.1 (sfS B199 sf0) (allS (ltN (by omega)) all0)) (g := (mkF m 376 (la17 p0 p1 p2 p3 p4 p5 uw xl r_183 (0 : Int32) pp xx b197) [(.ref b197), (.ref b199), (.ref b199)])) rfl (by rw [hml]; rfl) (Steps.refl _) (a := b199) (argsL := [(.ref b197)]) (rest := [(.ref b199)]) (lenOf pd_7 rfl) rfl (wz rfl) (hb hby at_376) (fun _ _ => ⟨rfl, e199, (by decide : 4 + 4 ≤ _), (by decide : 44 + 8 ≤ _)⟩)
  dsimp only [Pt.U, Pt.locs, Pt.cells, Pt.slots] at X203w hS203w gr203 l203 y203 z203 st203 hQ203 C203w
  rw [l203, y203, z203] at X203w
  obtain ⟨X203, hS203, hZ203, hown203⟩ := rebS hS183 (by rw [e199]; omega) X203w hS203w gr203 hZ183 hown183
  obtain ⟨h203, e203⟩ : ∃ z, T203.heap = z := ⟨_, rfl⟩
  rw [e203] at hQ203
  obtain ⟨t_203, k_203, rfl, N203q, K203, p203_0, p203_1, p203_2, p203_3⟩ := hQ203
  have N203 := Fr.app N186 N203q
  rw [e203] at C203w hS203
  have hk203 : h203.size ≤ h203.size := Nat.le_refl _
  have f205 : Arv Z h199 t_183 k_183 .byte N_183 vs_183 (.int 0) := ((p183_3.ext E197).ext E199)
  have ne206 : b199 ≠ t_183 := Exa.neArv A199 f205 (wd hw 6 rfl)
  have C207 : CHr Z EL1 s.vm h0 T203.vm h203 := C200.trans (C203w)
  have sz203 : h199.size ≤ h203.size := K203.1
  have nz203 := Nat.le_trans nz199 sz203
  have lt203_0 := ltA p203_0.lt
  have lt203_3 := ltA p203_3.lt
  -- pc 383: Kind.named by rm_named
  have ge209 : n0 ≤ b199 := by omega
  have f210 : Old Z n0 h203 := ((((O0.keep K183 all0).ext E197).ext E199).keep K203 (allS ge209 all0))
  obtain ⟨_, _, ⟨T208, L208, k208, n208⟩, -, X208, ⟨Lc208, hQ208, l208, y208, z208⟩, st208⟩ := Jvm.LawKit.callS X203 hx (y := (⟨"com/example/rolegrant/rolegrant/policy/Kind", "named", kS2⟩ : MethodName)) hown203 (mvT hZ203 (wd hw 44 rfl)) (mvT hZ203 (wd hw 45 rfl)) (mvT hZ203 (wd hw 46 rfl)) (mvT hZ203 (wd hw 47 rfl)) (by decide) (backOf (W := 0) (rm_named l Z a0 hw [] b199 t_203 k_203 (0 : Int32) [] ([] : List Int32) z0 va u0 u1 u2 u3 w0 w1 w2 w3 y0 y1 y2 y3 kV b0 b1 b2 b3 h203 n0 nz203 f210 p203_0 p203_1 p203_2 p203_3 (by first | assumption | decide | omega) (by first | assumption | decide | omega) own_cod0 own_bd0 (Nat.zero_le _) (by first | assumption | decide | omega)) hZ203 (wd hw 47 rfl) (wd hw 46 rfl) (by decide) (by decide)) (g := (mkF m 383 (la18 p0 p1 p2 p3 p4 p5 uw xl r_183 (0 : Int32) pp xx b197 b199) [(.ref b199)])) rfl (by rw [hml]; rfl) (argsL := [(.ref b199)]) (rest := []) (lenOf pd_8 rfl) rfl (wz rfl) (hb hby at_383) (fun _ _ => ⟨rfl, e203, (by decide : 8 + 1 ≤ _), (by decide : 52 + 4 ≤ _)⟩)
  dsimp only [Pt.U, Pt.locs, Pt.cells, Pt.slots] at X208 l208 y208 z208 st208 hQ208
  rw [l208, y208, z208] at X208
  obtain ⟨h208, e208⟩ : ∃ z, T208.heap = z := ⟨_, rfl⟩
  rw [e208] at hQ208
  obtain ⟨rfl, N208q, K208⟩ := hQ208
  have N208 := Fr.app N203 N208q
  have C211 : CHr Z EL1 s.vm h0 T203.vm h208 := C207.trans (CHr.keep K208 sf0 C207.1)
  have sz208 : h203.size ≤ h208.size := K208.1
  have nz208 := Nat.le_trans nz203 sz208
  -- pc 388: KindNamedPinLaw.expected by rm_exp
  have f213 : Old Z n0 h208 := (f210.keep K208 all0)
  have f214 : Exa Z h208 b199 kS0 := (p203_0.keep K208)
  have f215 : Fld Z h208 b199 kS0 "coder" "B" (.int 0) := (p203_1.keep K208 nin0)
  have f216 : Fld Z h208 b199 kS0 "value" "[B" (.ref t_203) := (p203_2.keep K208 nin0)
  have f217 : Arv Z h208 t_203 k_203 .byte (0 : Int32) [] (.int 0) := (p203_3.keep K208 nin0)
  obtain ⟨_, _, ⟨T212, L212, k212, n212⟩, -, X212w, hS212w, gr212, ⟨Lc212, hQ212, l212, y212, z212, C212w⟩, st212⟩ := callSS X208 hx (y := (⟨kS1, "expected", kS2⟩ : MethodName)) hown203 (mvT hZ203 (wd hw 79 rfl)) (mvT hZ203 (wd hw 80 rfl)) (mvT hZ203 (wd hw 2 rfl)) (mvT hZ203 (wd hw 81 rfl)) (by decide) (own_backS (W := 1) (rm_exp l Z a0 hw [] b199 t_203 k_203 (0 : Int32) [] ([] : List Int32) z0 va u0 u1 u2 u3 w0 w1 w2 w3 y0 y1 y2 y3 kV b0 b1 b2 b3 h208 n0 nz208 f213 f214 f215 f216 f217 (by first | assumption | decide | omega) (by first | assumption | decide | omega) own_cod0 own_bd0 (Nat.zero_le _) (by first | assumption | decide | omega)) hZ203 (wd hw 81 rfl) (wd hw 2 rfl) (by decide) (by decide) (own_EW hw) C211.1 sf0 all0) (g := (mkF m 388 (la18 p0 p1 p2 p3 p4 p5 uw xl r_183 (0 : Int32) pp xx b197 b199) [(.ref b199), (own_pick ([] : List Int32) u0 u1 u2 u3)])) rfl (by rw [hml]; rfl) (argsL := [(.ref b199)]) (rest := [(own_pick ([] : List Int32) u0 u1 u2 u3)]) (lenOf pd_8 rfl) rfl (own_wx _ _ _ _ _) (hb hby at_388) (fun _ _ => ⟨rfl, e208, (by decide : 9 + 8 ≤ _), (by decide : 56 + 104 ≤ _)⟩)
  dsimp only [Pt.U, Pt.locs, Pt.cells, Pt.slots] at X212w hS212w gr212 l212 y212 z212 st212 hQ212 C212w
  rw [l212, y212, z212] at X212w
  obtain ⟨X212, hS212, hZ212, hown212⟩ := rebS hS203 (by rw [e208]; omega) X212w hS212w gr212 hZ203 hown203
  obtain ⟨h212, e212⟩ : ∃ z, T212.heap = z := ⟨_, rfl⟩
  rw [e212] at hQ212
  obtain ⟨rfl, N212q, K212⟩ := hQ212
  have N212 := Fr.app N208 N212q
  rw [e212] at C212w hS212
  have hk212 : h212.size ≤ h212.size := Nat.le_refl _
  have C218 : CHr Z EL1 s.vm h0 T212.vm h212 := C211.trans (C212w)
  have sz212 : h208.size ≤ h212.size := K212.1
  have nz212 := Nat.le_trans nz208 sz212
  obtain ⟨fs, hr, hrun, hended, hE⟩ := X212.leaveW hS212 (by rw [e212]; omega) (v := some (.int 1)) (fun h => by rw [Bd.returns] at h; cases h)
  have CE := C218.trans (CHv.at X212 hZ212 (own_EW hw) C218.1)
  refine ⟨_, _, pre196 _ ?_, hrun, hended, _, _, rfl, ?_, ?_, ⟨hE.1, hE.2.1, hE.2.2.1, hE.2.2.2.mono (by decide) (by decide)⟩⟩
  ·show GO p e below T186 (mkF m 83 (la16 p0 p1 p2 p3 p4 p5 uw xl r_183 (0 : Int32) pp xx) []) _
   refine XS.iload X186.here hx rfl (hb hby at_83) rfl ?_
   show GO p e below T186 (mkF m 85 (la16 p0 p1 p2 p3 p4 p5 uw xl r_183 (0 : Int32) pp xx) [(.int 0)]) _
   refine st197 _ ?_
   show GO p e below T197 (mkF m 87 (la16 p0 p1 p2 p3 p4 p5 uw xl r_183 (0 : Int32) pp xx) [(.ref b197)]) _
   refine XS.astore X197.here hx rfl (hb hby at_87) rfl rfl (l' := (la17 p0 p1 p2 p3 p4 p5 uw xl r_183 (0 : Int32) pp xx b197)) rfl ?_
   show GO p e below T197 (mkF m 89 (la17 p0 p1 p2 p3 p4 p5 uw xl r_183 (0 : Int32) pp xx b197) []) _
   refine XS.iload X197.here hx rfl (hb hby at_89) rfl ?_
   show GO p e below T197 (mkF m 91 (la17 p0 p1 p2 p3 p4 p5 uw xl r_183 (0 : Int32) pp xx b197) [(.int 0)]) _
   refine XS.ifYes X197.here hx rfl (pc0 := 91) (pc' := 115) rfl (hb hby at_91) rfl ((if0 _ _).trans (flt ((by decide) : ¬ ((0 : Int32) < (0 : Int32)))).2.2.2) (by decide) (by decide) ?_
   show GO p e below T197 (mkF m 115 (la17 p0 p1 p2 p3 p4 p5 uw xl r_183 (0 : Int32) pp xx b197) []) _
   refine XS.iload X197.here hx rfl (hb hby at_115) rfl ?_
   show GO p e below T197 (mkF m 117 (la17 p0 p1 p2 p3 p4 p5 uw xl r_183 (0 : Int32) pp xx b197) [(.int 0)]) _
   refine XS.iconst X197.here hx rfl (hb hby at_117) ?_
   show GO p e below T197 (mkF m 118 (la17 p0 p1 p2 p3 p4 p5 uw xl r_183 (0 : Int32) pp xx b197) [(.int 1), (.int 0)]) _
   refine XS.icmpYes X197.here hx rfl (pc0 := 118) (pc' := 142) rfl (hb hby at_118) rfl (flt ((by decide) : ¬ ((1 : Int32) < (0 : Int32)))).2.2.2 (by decide) (by decide) ?_
   show GO p e below T197 (mkF m 142 (la17 p0 p1 p2 p3 p4 p5 uw xl r_183 (0 : Int32) pp xx b197) []) _
   refine XS.iload X197.here hx rfl (hb hby at_142) rfl ?_
   show GO p e below T197 (mkF m 144 (la17 p0 p1 p2 p3 p4 p5 uw xl r_183 (0 : Int32) pp xx b197) [(.int 0)]) _
   refine XS.iconst X197.here hx rfl (hb hby at_144) ?_
   show GO p e below T197 (mkF m 145 (la17 p0 p1 p2 p3 p4 p5 uw xl r_183 (0 : Int32) pp xx b197) [(.int 2), (.int 0)]) _
   refine XS.icmpYes X197.here hx rfl (pc0 := 145) (pc' := 169) rfl (hb hby at_145) rfl (flt ((by decide) : ¬ ((2 : Int32) < (0 : Int32)))).2.2.2 (by decide) (by decide) ?_
   show GO p e below T197 (mkF m 169 (la17 p0 p1 p2 p3 p4 p5 uw xl r_183 (0 : Int32) pp xx b197) []) _
   refine XS.iload X197.here hx rfl (hb hby at_169) rfl ?_
   show GO p e below T197 (mkF m 171 (la17 p0 p1 p2 p3 p4 p5 uw xl r_183 (0 : Int32) pp xx b197) [(.int 0)]) _
   refine XS.iconst X197.here hx rfl (hb hby at_171) ?_
   show GO p e below T197 (mkF m 172 (la17 p0 p1 p2 p3 p4 p5 uw xl r_183 (0 : Int32) pp xx b197) [(.int 3), (.int 0)]) _
   refine XS.icmpYes X197.here hx rfl (pc0 := 172) (pc' := 196) rfl (hb hby at_172) rfl (flt ((by decide) : ¬ ((3 : Int32) < (0 : Int32)))).2.2.2 (by decide) (by decide) ?_
   show GO p e below T197 (mkF m 196 (la17 p0 p1 p2 p3 p4 p5 uw xl r_183 (0 : Int32) pp xx b197) []) _
   refine XS.iload X197.here hx rfl (hb hby at_196) rfl ?_
   show GO p e below T197 (mkF m 198 (la17 p0 p1 p2 p3 p4 p5 uw xl r_183 (0 : Int32) pp xx b197) [(.int 0)]) _
   refine XS.iconst X197.here hx rfl (hb hby at_198) ?_
   show GO p e below T197 (mkF m 199 (la17 p0 p1 p2 p3 p4 p5 uw xl r_183 (0 : Int32) pp xx b197) [(.int 4), (.int 0)]) _
   refine XS.icmpYes X197.here hx rfl (pc0 := 199) (pc' := 223) rfl (hb hby at_199) rfl (flt ((by decide) : ¬ ((4 : Int32) < (0 : Int32)))).2.2.2 (by decide) (by decide) ?_
   show GO p e below T197 (mkF m 223 (la17 p0 p1 p2 p3 p4 p5 uw xl r_183 (0 : Int32) pp xx b197) []) _
   refine XS.iload X197.here hx rfl (hb hby at_223) rfl ?_
   show GO p e below T197 (mkF m 225 (la17 p0 p1 p2 p3 p4 p5 uw xl r_183 (0 : Int32) pp xx b197) [(.int 0)]) _
   refine XS.iconst X197.here hx rfl (hb hby at_225) ?_
   show GO p e below T197 (mkF m 226 (la17 p0 p1 p2 p3 p4 p5 uw xl r_183 (0 : Int32) pp xx b197) [(.int 5), (.int 0)]) _
   refine XS.icmpYes X197.here hx rfl (pc0 := 226) (pc' := 250) rfl (hb hby at_226) rfl (flt ((by decide) : ¬ ((5 : Int32) < (0 : Int32)))).2.2.2 (by decide) (by decide) ?_
   show GO p e below T197 (mkF m 250 (la17 p0 p1 p2 p3 p4 p5 uw xl r_183 (0 : Int32) pp xx b197) []) _
   refine XS.iload X197.here hx rfl (hb hby at_250) rfl ?_
   show GO p e below T197 (mkF m 252 (la17 p0 p1 p2 p3 p4 p5 uw xl r_183 (0 : Int32) pp xx b197) [(.int 0)]) _
   refine XS.bipush X197.here hx rfl (hb hby at_252) ?_
   show GO p e below T197 (mkF m 254 (la17 p0 p1 p2 p3 p4 p5 uw xl r_183 (0 : Int32) pp xx b197) [(.int 6), (.int 0)]) _
   refine XS.icmpYes X197.here hx rfl (pc0 := 254) (pc' := 280) rfl (hb hby at_254) rfl (flt ((by decide) : ¬ ((6 : Int32) < (0 : Int32)))).2.2.2 (by decide) (by decide) ?_
   show GO p e below T197 (mkF m 280 (la17 p0 p1 p2 p3 p4 p5 uw xl r_183 (0 : Int32) pp xx b197) []) _
   refine XS.iload X197.here hx rfl (hb hby at_280) rfl ?_
   show GO p e below T197 (mkF m 282 (la17 p0 p1 p2 p3 p4 p5 uw xl r_183 (0 : Int32) pp xx b197) [(.int 0)]) _
   refine XS.bipush X197.here hx rfl (hb hby at_282) ?_
   show GO p e below T197 (mkF m 284 (la17 p0 p1 p2 p3 p4 p5 uw xl r_183 (0 : Int32) pp xx b197) [(.int 7), (.int 0)]) _
   refine XS.icmpYes X197.here hx rfl (pc0 := 284) (pc' := 310) rfl (hb hby at_284) rfl (flt ((by decide) : ¬ ((7 : Int32) < (0 : Int32)))).2.2.2 (by decide) (by decide) ?_
   show GO p e below T197 (mkF m 310 (la17 p0 p1 p2 p3 p4 p5 uw xl r_183 (0 : Int32) pp xx b197) []) _
   refine XS.iload X197.here hx rfl (hb hby at_310) rfl ?_
   show GO p e below T197 (mkF m 312 (la17 p0 p1 p2 p3 p4 p5 uw xl r_183 (0 : Int32) pp xx b197) [(.int 0)]) _
   refine XS.bipush X197.here hx rfl (hb hby at_312) ?_
   show GO p e below T197 (mkF m 314 (la17 p0 p1 p2 p3 p4 p5 uw xl r_183 (0 : Int32) pp xx b197) [(.int 8), (.int 0)]) _
   refine XS.icmpYes X197.here hx rfl (pc0 := 314) (pc' := 340) rfl (hb hby at_314) rfl (flt ((by decide) : ¬ ((8 : Int32) < (0 : Int32)))).2.2.2 (by decide) (by decide) ?_
   show GO p e below T197 (mkF m 340 (la17 p0 p1 p2 p3 p4 p5 uw xl r_183 (0 : Int32) pp xx b197) []) _
   refine XS.iload X197.here hx rfl (hb hby at_340) rfl ?_
   show GO p e below T197 (mkF m 342 (la17 p0 p1 p2 p3 p4 p5 uw xl r_183 (0 : Int32) pp xx b197) [(.int 0)]) _
   refine XS.bipush X197.here hx rfl (hb hby at_342) ?_
   show GO p e below T197 (mkF m 344 (la17 p0 p1 p2 p3 p4 p5 uw xl r_183 (0 : Int32) pp xx b197) [(.int 9), (.int 0)]) _
   refine XS.icmpYes X197.here hx rfl (pc0 := 344) (pc' := 370) rfl (hb hby at_344) rfl (flt ((by decide) : ¬ ((9 : Int32) < (0 : Int32)))).2.2.2 (by decide) (by decide) ?_
   show GO p e below T197 (mkF m 370 (la17 p0 p1 p2 p3 p4 p5 uw xl r_183 (0 : Int32) pp xx b197) []) _
   refine st199 _ ?_
   show GO p e below T199 (mkF m 373 (la17 p0 p1 p2 p3 p4 p5 uw xl r_183 (0 : Int32) pp xx b197) [(.ref b199)]) _
   refine XS.dup X199.here hx rfl (hb hby at_373) rfl rfl ?_
   show GO p e below T199 (mkF m 374 (la17 p0 p1 p2 p3 p4 p5 uw xl r_183 (0 : Int32) pp xx b197) [(.ref b199), (.ref b199)]) _
   refine XS.aload X199.here hx rfl (hb hby at_374) rfl rfl ?_
   show GO p e below T199 (mkF m 376 (la17 p0 p1 p2 p3 p4 p5 uw xl r_183 (0 : Int32) pp xx b197) [(.ref b197), (.ref b199), (.ref b199)]) _
   refine st203.trans ?_
   show GO p e below T203 (mkF m 379 (la17 p0 p1 p2 p3 p4 p5 uw xl r_183 (0 : Int32) pp xx b197) [(.ref b199)]) _
   refine XS.astore X203.here hx rfl (hb hby at_379) rfl rfl (l' := (la18 p0 p1 p2 p3 p4 p5 uw xl r_183 (0 : Int32) pp xx b197 b199)) rfl ?_
   show GO p e below T203 (mkF m 381 (la18 p0 p1 p2 p3 p4 p5 uw xl r_183 (0 : Int32) pp xx b197 b199) []) _
   refine XS.aload X203.here hx rfl (hb hby at_381) rfl rfl ?_
   show GO p e below T203 (mkF m 383 (la18 p0 p1 p2 p3 p4 p5 uw xl r_183 (0 : Int32) pp xx b197 b199) [(.ref b199)]) _
   refine st208 _ ?_
   show GO p e below T208 (mkF m 386 (la18 p0 p1 p2 p3 p4 p5 uw xl r_183 (0 : Int32) pp xx b197 b199) [(own_pick ([] : List Int32) u0 u1 u2 u3)]) _
   refine XS.aload X208.here hx rfl (hb hby at_386) rfl rfl ?_
   show GO p e below T208 (mkF m 388 (la18 p0 p1 p2 p3 p4 p5 uw xl r_183 (0 : Int32) pp xx b197 b199) [(.ref b199), (own_pick ([] : List Int32) u0 u1 u2 u3)]) _
   refine st212.trans ?_
   show GO p e below T212 (mkF m 391 (la18 p0 p1 p2 p3 p4 p5 uw xl r_183 (0 : Int32) pp xx b197 b199) [(own_pick ([] : List Int32) u0 u1 u2 u3), (own_pick ([] : List Int32) u0 u1 u2 u3)]) _
   refine Jvm.RoadKit.acmp (g := (mkF m 391 (la18 p0 p1 p2 p3 p4 p5 uw xl r_183 (0 : Int32) pp xx b197 b199) [(own_pick ([] : List Int32) u0 u1 u2 u3), (own_pick ([] : List Int32) u0 u1 u2 u3)])) X212 hx rfl (own_pickref _ _ _ _ _) (own_pickref _ _ _ _ _) (pc0 := 391) (pc' := 394) (same := true) rfl (hb hby at_391) rfl (decide_eq_true rfl) (by decide) (by decide) ?_
   show GO p e below T212 (mkF m 394 (la18 p0 p1 p2 p3 p4 p5 uw xl r_183 (0 : Int32) pp xx b197 b199) []) _
   refine XS.iconst X212.here hx rfl (hb hby at_394) ?_
   show GO p e below T212 (mkF m 395 (la18 p0 p1 p2 p3 p4 p5 uw xl r_183 (0 : Int32) pp xx b197 b199) [(.int 1)]) _
   refine XS.goto X212.here hx rfl (pc0 := 395) (pc' := 399) rfl (hb hby at_395) (by decide) (by decide) ?_
   show GO p e below T212 (mkF m 399 (la18 p0 p1 p2 p3 p4 p5 uw xl r_183 (0 : Int32) pp xx b197 b199) [(.int 1)]) _
   exact retN X212 hx (t := .boolean) Bd.returns (by simp) (hb hby at_399) hr
  ·show Qrm0 Z p0 p1 p2 p3 p4 p5 z0 f0 va u0 u1 u2 u3 w0 w1 w2 w3 y0 y1 y2 y3 kV b0 b1 b2 b3 h0 n0 _ T212.heap _
   rw [e212]
   exact ⟨rfl, N212⟩
  ·show CHr Z EL1 s.vm s.heap T212.vm T212.heap
   rw [hh, e212]
   exact CE
 ·obtain ⟨T219, h219, k219, X219, e219, E219, A219, st219⟩ := newP X186 hx hZ183 (wd hw 13 rfl) e186 (g := (mkF m 85 (la16 p0 p1 p2 p3 p4 p5 uw xl r_183 (1 : Int32) pp xx) [(.int 1)])) rfl (hb hby at_85) rfl (by decide) (cap := 1) (by decide) (by decide) (by decide) (by decide)
  obtain ⟨b219, g219⟩ : ∃ z, z = h183.size := ⟨_, rfl⟩
  rw [← g219] at A219 st219
  have C220 : CHr Z EL1 s.vm h0 T183.vm h219 := C184.trans (CHr.ext E219 C184.1)
  have sz219 : h183.size ≤ h219.size := E219.1
  have nz219 := Nat.le_trans nz183 sz219
  have lt219 := ltA A219.lt
  have V219 : Arv Z h219 b219 k219 .char (1 : Int32) [(.int 0)] (.int 0) := (Arv.new A219 (by decide)).pad (pad_rep [] (.int 0) 1)
  -- pc 111: KindNamedPinLaw.at by rm_at
  have f222 : Old Z n0 h219 := ((O0.keep K183 all0).ext E219)
  have f223 : Exa Z h219 r_183 kS0 := (p183_0.ext E219)
  have f224 : Fld Z h219 r_183 kS0 "coder" "B" (.int 0) := (p183_1.ext E219)
  have f225 : Fld Z h219 r_183 kS0 "value" "[B" (.ref t_183) := (p183_2.ext E219)
  have f226 : Arv Z h219 t_183 k_183 .byte N_183 vs_183 (.int 0) := (p183_3.ext E219)
  obtain ⟨_, _, ⟨T221, L221, k221, n221⟩, -, X221, ⟨Lc221, hQ221, l221, y221, z221⟩, st221⟩ := Jvm.LawKit.callS X219 hx (y := (⟨kS1, "at", kS3⟩ : MethodName)) hown183 (mvT hZ183 (wd hw 14 rfl)) (mvT hZ183 (wd hw 15 rfl)) (mvT hZ183 (wd hw 2 rfl)) (mvT hZ183 (wd hw 16 rfl)) (by decide) (backOf (W := 2) (rm_at l Z a0 hw [] (0 : Int32) uw pp xx p3 p4 p5 r_183 t_183 k_183 N_183 vs_183 cs_183 z0 f0 h219 n0 nz219 f222 f223 f224 f225 f226 (by first | assumption | decide | omega) (by first | assumption | decide | omega) (by first | assumption | decide | omega) (by first | assumption | decide | omega) r183_0 r183_1 r183_2 r183_3 (by decide) rxx qxx) hZ183 (wd hw 16 rfl) (wd hw 2 rfl) (by decide) (by decide)) (g := (mkF m 111 (la17 p0 p1 p2 p3 p4 p5 uw xl r_183 (1 : Int32) pp xx b219) [(.int p5), (.int p4), (.int p3), (.int xx), (.int pp), (.int uw), (.ref r_183), (.int 0), (.int 0), (.ref b219)])) rfl (by rw [hml]; rfl) (argsL := [(.int 0), (.ref r_183), (.int uw), (.int pp), (.int xx), (.int p3), (.int p4), (.int p5)]) (rest := [(.int 0), (.ref b219)]) (lenOf pd_9 rfl) rfl (wz rfl) (hb hby at_111) (fun _ _ => ⟨rfl, e219, (by decide : 3 + 0 ≤ _), (by decide : 41 + 0 ≤ _)⟩)
  dsimp only [Pt.U, Pt.locs, Pt.cells, Pt.slots] at X221 l221 y221 z221 st221 hQ221
  rw [l221, y221, z221] at X221
  obtain ⟨cv_221, rfl, N221q, e221, r221_0, r221_1⟩ := hQ221
  have N221 := Fr.app N186 N221q
  obtain ⟨cl227, Ar227, q227, S227, M227, H227, G227⟩ := id V219
  have hin227 : ¬ ((0 : Int32) < 0 ∨ cl227.slots.size ≤ ((0 : Int32)).toNatClampNeg) := inb_of S227 ⟨by decide, by decide⟩
  obtain ⟨T228, h228, X228, e228, W228, st228⟩ := stC X221 hx hZ183 e221 Ar227 (j := (0 : Int32)) hin227 (g := (mkF m 114 (la17 p0 p1 p2 p3 p4 p5 uw xl r_183 (1 : Int32) pp xx b219) [(.int cv_221), (.int 0), (.ref b219)])) rfl rfl (hb hby at_114)
  have ge229 : n0 ≤ b219 := by omega
  have N228 := Fr.snoc X228 N221 ge229
  have ne230 : b219 ≠ r_183 := Ne.symm (Exa.neArv f223 V219 (wd hw 6 rfl))
  have C231 : CHr Z EL1 s.vm h0 T183.vm h228 := C220.trans (CHr.wr W228 (Safe.arv hZ183.alike V219 (by decide)) C220.1)
  have sz228 : h219.size ≤ h228.size := Nat.le_of_eq W228.size.symm
  have nz228 := Nat.le_trans nz219 sz228
  have V228 : Arv Z h228 b219 k219 .char (1 : Int32) [(.int (nar .char cv_221))] (.int 0) := Arv.set Ar227 q227 S227 M227 H227 G227 (fits_nar_char _) W228 0 rfl (Nat.le_of_ble_eq_true rfl)
  have V232 : Arv Z h228 b219 k219 .char (1 : Int32) [(.int cv_221)] (.int 0) := by
   have q := V228
   rw [r221_1] at q
   exact q
  obtain ⟨T233, h233, X233, e233, E233, A233, D233, U233, st233⟩ := newO X228 hx hZ183 hown183 (wd hw 20 rfl) (wd hw 6 rfl) (wd hw 5 rfl) e228 (g := (mkF m 370 (la17 p0 p1 p2 p3 p4 p5 uw xl r_183 (1 : Int32) pp xx b219) [])) rfl (hb hby at_370) (by decide) (by decide)
  obtain ⟨b233, g233⟩ : ∃ z, z = h228.size := ⟨_, rfl⟩
  rw [← g233] at A233 D233 U233 st233
  have C234 : CHr Z EL1 s.vm h0 T183.vm h233 := C231.trans (CHr.ext E233 C231.1)
  have sz233 : h228.size ≤ h233.size := E233.1
  have nz233 := Nat.le_trans nz228 sz233
  have lt233 := ltA A233.lt
  have B233 : Safe Z EL1 T183.vm h233 b233 := Safe.ext E233 C231.1 (Safe.new (by omega))
  have f235 : Fld Z h233 b233 kS0 "value" "[B" .null := D233 (Or.inr (wd hw 8 rfl)) (ty := (.array .byte)) (by decide)
  have f236 : Fld Z h233 b233 kS0 "coder" "B" (.int 0) := D233 (Or.inr (wd hw 9 rfl)) (ty := .byte) (by decide)
  have f237 : Arv Z h233 b219 k219 .char (1 : Int32) [(.int cv_221)] (.int 0) := (V232.ext E233)
  have f238 : Old Z n0 h233 := ((f222.wr W228 ge229).ext E233)
  have S239 : Sta Z h233 kS0 "COMPACT_STRINGS" "Z" (.int z0) := SZc.ext f238.2
  obtain ⟨v240, _, ⟨T240, L240, k240, n240⟩, -, X240, ⟨Lc240, hQ240, l240, y240, z240⟩, st240⟩ := X233.specialBack hx (y := (⟨kS0, "<init>", "([C)V"⟩ : MethodName)) rfl hown183 (mvT hZ183 (wd hw 21 rfl)) (mvT hZ183 (wd hw 22 rfl)) (mvT hZ183 (wd hw 23 rfl)) (by decide) (StrChars.Road.backV (W := 1) hZ183 (own_hws hw) (kI := 4) (wd hw 6 rfl) (cs := ([cv_221] : List Int32)) (bs := ([cv_221] : List Int32).map (fun c => c.toInt8.toInt32)) (n := 1) (n0 := n0) (by omega) (by omega) A233 f235 f236 f237 S239 hz0 rfl rfl (by decide) (by decide) (own_allS r221_0 own_all0) rfl (by decide) (by decide)) (g := (mkF m 376 (la17 p0 p1 p2 p3 p4 p5 uw xl r_183 (1 : Int32) pp xx b219) [(.ref b219), (.ref b233), (.ref b233)])) rfl (by rw [hml]; rfl) (Steps.refl _) (a := b233) (argsL := [(.ref b219)]) (rest := [(.ref b233)]) (lenOf pd_7 rfl) rfl (wz rfl) (hb hby at_376) (fun _ _ => ⟨rfl, e233, (by decide : 4 + 1 ≤ _), (by decide : 45 + 1 ≤ _)⟩)
  dsimp only [Pt.U, Pt.locs, Pt.cells, Pt.slots] at X240 l240 y240 z240 st240 hQ240
  rw [l240, y240, z240] at X240
  obtain ⟨h240, e240⟩ : ∃ z, T240.heap = z := ⟨_, rfl⟩
  rw [e240] at hQ240
  obtain ⟨rfl, N240q, K240, A240, Fc240, t240, kb240, u240, lo240, nt240, Fv240, V240⟩ := hQ240
  have N240 := Fr.app N228 N240q
  have ne241 : t_183 ≠ b219 := neN (by omega)
  have f242 : Arv Z h233 t_183 k_183 .byte N_183 vs_183 (.int 0) := ((f226.other W228 ne241).ext E233)
  have ne243 : b233 ≠ t_183 := Exa.neArv A233 f242 (wd hw 6 rfl)
  have C244 : CHr Z EL1 s.vm h0 T183.vm h240 := C234.trans (CHr.keep K240 (sfS B233 sf0) C234.1)
  have sz240 : h233.size ≤ h240.size := K240.1
  have nz240 := Nat.le_trans nz233 sz240
  have lt240 := ltA V240.lt
  have hcd240 : StrChars.Road.CodA ([cv_221] : List Int32) 0 (1 : Int32) ((([cv_221] : List Int32).map (fun c => c.toInt8.toInt32)).map Value.int) := own_codn rfl (fun c hc => ((own_allS r221_0 own_all0) c hc).2)
  -- pc 383: Kind.named by rm_named
  have ge246 : n0 ≤ b233 := by omega
  have f247 : Old Z n0 h240 := (f238.keep K240 (allS ge246 all0))
  obtain ⟨_, _, ⟨T245, L245, k245, n245⟩, -, X245, ⟨Lc245, hQ245, l245, y245, z245⟩, st245⟩ := Jvm.LawKit.callS X240 hx (y := (⟨"com/example/rolegrant/rolegrant/policy/Kind", "named", kS2⟩ : MethodName)) hown183 (mvT hZ183 (wd hw 44 rfl)) (mvT hZ183 (wd hw 45 rfl)) (mvT hZ183 (wd hw 46 rfl)) (mvT hZ183 (wd hw 47 rfl)) (by decide) (backOf (W := 0) (rm_named l Z a0 hw [] b233 t240 kb240 (1 : Int32) ((([cv_221] : List Int32).map (fun c => c.toInt8.toInt32)).map Value.int) ([cv_221] : List Int32) z0 va u0 u1 u2 u3 w0 w1 w2 w3 y0 y1 y2 y3 kV b0 b1 b2 b3 h240 n0 nz240 f247 A240 Fc240 Fv240 V240 (by first | assumption | decide | omega) (by first | assumption | decide | omega) hcd240 (own_up (own_allS r221_0 own_all0)) (Nat.le_of_ble_eq_true rfl) (by first | assumption | decide | omega)) hZ183 (wd hw 47 rfl) (wd hw 46 rfl) (by decide) (by decide)) (g := (mkF m 383 (la18 p0 p1 p2 p3 p4 p5 uw xl r_183 (1 : Int32) pp xx b219 b233) [(.ref b233)])) rfl (by rw [hml]; rfl) (argsL := [(.ref b233)]) (rest := []) (lenOf pd_8 rfl) rfl (wz rfl) (hb hby at_383) (fun _ _ => ⟨rfl, e240, (by decide : 5 + 1 ≤ _), (by decide : 46 + 4 ≤ _)⟩)
  dsimp only [Pt.U, Pt.locs, Pt.cells, Pt.slots] at X245 l245 y245 z245 st245 hQ245
  rw [l245, y245, z245] at X245
  obtain ⟨h245, e245⟩ : ∃ z, T245.heap = z := ⟨_, rfl⟩
  rw [e245] at hQ245
  obtain ⟨rfl, N245q, K245⟩ := hQ245
  have N245 := Fr.app N240 N245q
  have C248 : CHr Z EL1 s.vm h0 T183.vm h245 := C244.trans (CHr.keep K245 sf0 C244.1)
  have sz245 : h240.size ≤ h245.size := K245.1
  have nz245 := Nat.le_trans nz240 sz245
  -- pc 388: KindNamedPinLaw.expected by rm_exp
  have f250 : Old Z n0 h245 := (f247.keep K245 all0)
  have f251 : Exa Z h245 b233 kS0 := (A240.keep K245)
  have f252 : Fld Z h245 b233 kS0 "coder" "B" (.int 0) := (Fc240.keep K245 nin0)
  have f253 : Fld Z h245 b233 kS0 "value" "[B" (.ref t240) := (Fv240.keep K245 nin0)
  have f254 : Arv Z h245 t240 kb240 .byte (1 : Int32) ((([cv_221] : List Int32).map (fun c => c.toInt8.toInt32)).map Value.int) (.int 0) := (V240.keep K245 nin0)
  obtain ⟨_, _, ⟨T249, L249, k249, n249⟩, -, X249w, hS249w, gr249, ⟨Lc249, hQ249, l249, y249, z249, C249w⟩, st249⟩ := callSS X245 hx (y := (⟨kS1, "expected", kS2⟩ : MethodName)) hown183 (mvT hZ183 (wd hw 79 rfl)) (mvT hZ183 (wd hw 80 rfl)) (mvT hZ183 (wd hw 2 rfl)) (mvT hZ183 (wd hw 81 rfl)) (by decide) (own_backS (W := 1) (rm_exp l Z a0 hw [] b233 t240 kb240 (1 : Int32) ((([cv_221] : List Int32).map (fun c => c.toInt8.toInt32)).map Value.int) ([cv_221] : List Int32) z0 va u0 u1 u2 u3 w0 w1 w2 w3 y0 y1 y2 y3 kV b0 b1 b2 b3 h245 n0 nz245 f250 f251 f252 f253 f254 (by first | assumption | decide | omega) (by first | assumption | decide | omega) hcd240 (own_up (own_allS r221_0 own_all0)) (Nat.le_of_ble_eq_true rfl) (by first | assumption | decide | omega)) hZ183 (wd hw 81 rfl) (wd hw 2 rfl) (by decide) (by decide) (own_EW hw) C248.1 sf0 all0) (g := (mkF m 388 (la18 p0 p1 p2 p3 p4 p5 uw xl r_183 (1 : Int32) pp xx b219 b233) [(.ref b233), (own_pick ([cv_221] : List Int32) u0 u1 u2 u3)])) rfl (by rw [hml]; rfl) (argsL := [(.ref b233)]) (rest := [(own_pick ([cv_221] : List Int32) u0 u1 u2 u3)]) (lenOf pd_8 rfl) rfl (own_wx _ _ _ _ _) (hb hby at_388) (fun _ _ => ⟨rfl, e245, (by decide : 6 + 8 ≤ _), (by decide : 50 + 104 ≤ _)⟩)
  dsimp only [Pt.U, Pt.locs, Pt.cells, Pt.slots] at X249w hS249w gr249 l249 y249 z249 st249 hQ249 C249w
  rw [l249, y249, z249] at X249w
  obtain ⟨X249, hS249, hZ249, hown249⟩ := rebS hS183 (by rw [e245]; omega) X249w hS249w gr249 hZ183 hown183
  obtain ⟨h249, e249⟩ : ∃ z, T249.heap = z := ⟨_, rfl⟩
  rw [e249] at hQ249
  obtain ⟨rfl, N249q, K249⟩ := hQ249
  have N249 := Fr.app N245 N249q
  rw [e249] at C249w hS249
  have hk249 : h249.size ≤ h249.size := Nat.le_refl _
  have C255 : CHr Z EL1 s.vm h0 T249.vm h249 := C248.trans (C249w)
  have sz249 : h245.size ≤ h249.size := K249.1
  have nz249 := Nat.le_trans nz245 sz249
  obtain ⟨fs, hr, hrun, hended, hE⟩ := X249.leaveW hS249 (by rw [e249]; omega) (v := some (.int 1)) (fun h => by rw [Bd.returns] at h; cases h)
  have CE := C255.trans (CHv.at X249 hZ249 (own_EW hw) C255.1)
  refine ⟨_, _, pre196 _ ?_, hrun, hended, _, _, rfl, ?_, ?_, ⟨hE.1, hE.2.1, hE.2.2.1, hE.2.2.2.mono (by decide) (by decide)⟩⟩
  ·show GO p e below T186 (mkF m 83 (la16 p0 p1 p2 p3 p4 p5 uw xl r_183 (1 : Int32) pp xx) []) _
   refine XS.iload X186.here hx rfl (hb hby at_83) rfl ?_
   show GO p e below T186 (mkF m 85 (la16 p0 p1 p2 p3 p4 p5 uw xl r_183 (1 : Int32) pp xx) [(.int 1)]) _
   refine st219 _ ?_
   show GO p e below T219 (mkF m 87 (la16 p0 p1 p2 p3 p4 p5 uw xl r_183 (1 : Int32) pp xx) [(.ref b219)]) _
   refine XS.astore X219.here hx rfl (hb hby at_87) rfl rfl (l' := (la17 p0 p1 p2 p3 p4 p5 uw xl r_183 (1 : Int32) pp xx b219)) rfl ?_
   show GO p e below T219 (mkF m 89 (la17 p0 p1 p2 p3 p4 p5 uw xl r_183 (1 : Int32) pp xx b219) []) _
   refine XS.iload X219.here hx rfl (hb hby at_89) rfl ?_
   show GO p e below T219 (mkF m 91 (la17 p0 p1 p2 p3 p4 p5 uw xl r_183 (1 : Int32) pp xx b219) [(.int 1)]) _
   refine XS.ifNo X219.here hx rfl (hb hby at_91) rfl ((if0 _ _).trans (tlt ((by decide) : (0 : Int32) < (1 : Int32))).2.2.2) ?_
   show GO p e below T219 (mkF m 94 (la17 p0 p1 p2 p3 p4 p5 uw xl r_183 (1 : Int32) pp xx b219) []) _
   refine XS.aload X219.here hx rfl (hb hby at_94) rfl rfl ?_
   show GO p e below T219 (mkF m 96 (la17 p0 p1 p2 p3 p4 p5 uw xl r_183 (1 : Int32) pp xx b219) [(.ref b219)]) _
   refine XS.iconst X219.here hx rfl (hb hby at_96) ?_
   show GO p e below T219 (mkF m 97 (la17 p0 p1 p2 p3 p4 p5 uw xl r_183 (1 : Int32) pp xx b219) [(.int 0), (.ref b219)]) _
   refine XS.iconst X219.here hx rfl (hb hby at_97) ?_
   show GO p e below T219 (mkF m 98 (la17 p0 p1 p2 p3 p4 p5 uw xl r_183 (1 : Int32) pp xx b219) [(.int 0), (.int 0), (.ref b219)]) _
   refine XS.aload X219.here hx rfl (hb hby at_98) rfl rfl ?_
   show GO p e below T219 (mkF m 100 (la17 p0 p1 p2 p3 p4 p5 uw xl r_183 (1 : Int32) pp xx b219) [(.ref r_183), (.int 0), (.int 0), (.ref b219)]) _
   refine XS.iload X219.here hx rfl (hb hby at_100) rfl ?_
   show GO p e below T219 (mkF m 102 (la17 p0 p1 p2 p3 p4 p5 uw xl r_183 (1 : Int32) pp xx b219) [(.int uw), (.ref r_183), (.int 0), (.int 0), (.ref b219)]) _
   refine XS.iload X219.here hx rfl (hb hby at_102) rfl ?_
   show GO p e below T219 (mkF m 104 (la17 p0 p1 p2 p3 p4 p5 uw xl r_183 (1 : Int32) pp xx b219) [(.int pp), (.int uw), (.ref r_183), (.int 0), (.int 0), (.ref b219)]) _
   refine XS.iload X219.here hx rfl (hb hby at_104) rfl ?_
   show GO p e below T219 (mkF m 106 (la17 p0 p1 p2 p3 p4 p5 uw xl r_183 (1 : Int32) pp xx b219) [(.int xx), (.int pp), (.int uw), (.ref r_183), (.int 0), (.int 0), (.ref b219)]) _
   refine XS.iloadN X219.here hx rfl (hb hby at_106) rfl ?_
   show GO p e below T219 (mkF m 107 (la17 p0 p1 p2 p3 p4 p5 uw xl r_183 (1 : Int32) pp xx b219) [(.int p3), (.int xx), (.int pp), (.int uw), (.ref r_183), (.int 0), (.int 0), (.ref b219)]) _
   refine XS.iload X219.here hx rfl (hb hby at_107) rfl ?_
   show GO p e below T219 (mkF m 109 (la17 p0 p1 p2 p3 p4 p5 uw xl r_183 (1 : Int32) pp xx b219) [(.int p4), (.int p3), (.int xx), (.int pp), (.int uw), (.ref r_183), (.int 0), (.int 0), (.ref b219)]) _
   refine XS.iload X219.here hx rfl (hb hby at_109) rfl ?_
   show GO p e below T219 (mkF m 111 (la17 p0 p1 p2 p3 p4 p5 uw xl r_183 (1 : Int32) pp xx b219) [(.int p5), (.int p4), (.int p3), (.int xx), (.int pp), (.int uw), (.ref r_183), (.int 0), (.int 0), (.ref b219)]) _
   refine st221 _ ?_
   show GO p e below T221 (mkF m 114 (la17 p0 p1 p2 p3 p4 p5 uw xl r_183 (1 : Int32) pp xx b219) [(.int cv_221), (.int 0), (.ref b219)]) _
   refine st228 _ ?_
   show GO p e below T228 (mkF m 115 (la17 p0 p1 p2 p3 p4 p5 uw xl r_183 (1 : Int32) pp xx b219) []) _
   refine XS.iload X228.here hx rfl (hb hby at_115) rfl ?_
   show GO p e below T228 (mkF m 117 (la17 p0 p1 p2 p3 p4 p5 uw xl r_183 (1 : Int32) pp xx b219) [(.int 1)]) _
   refine XS.iconst X228.here hx rfl (hb hby at_117) ?_
   show GO p e below T228 (mkF m 118 (la17 p0 p1 p2 p3 p4 p5 uw xl r_183 (1 : Int32) pp xx b219) [(.int 1), (.int 1)]) _
   refine XS.icmpYes X228.here hx rfl (pc0 := 118) (pc' := 142) rfl (hb hby at_118) rfl (flt ((by decide) : ¬ ((1 : Int32) < (1 : Int32)))).2.2.2 (by decide) (by decide) ?_
   show GO p e below T228 (mkF m 142 (la17 p0 p1 p2 p3 p4 p5 uw xl r_183 (1 : Int32) pp xx b219) []) _
   refine XS.iload X228.here hx rfl (hb hby at_142) rfl ?_
   show GO p e below T228 (mkF m 144 (la17 p0 p1 p2 p3 p4 p5 uw xl r_183 (1 : Int32) pp xx b219) [(.int 1)]) _
   refine XS.iconst X228.here hx rfl (hb hby at_144) ?_
   show GO p e below T228 (mkF m 145 (la17 p0 p1 p2 p3 p4 p5 uw xl r_183 (1 : Int32) pp xx b219) [(.int 2), (.int 1)]) _
   refine XS.icmpYes X228.here hx rfl (pc0 := 145) (pc' := 169) rfl (hb hby at_145) rfl (flt ((by decide) : ¬ ((2 : Int32) < (1 : Int32)))).2.2.2 (by decide) (by decide) ?_
   show GO p e below T228 (mkF m 169 (la17 p0 p1 p2 p3 p4 p5 uw xl r_183 (1 : Int32) pp xx b219) []) _
   refine XS.iload X228.here hx rfl (hb hby at_169) rfl ?_
   show GO p e below T228 (mkF m 171 (la17 p0 p1 p2 p3 p4 p5 uw xl r_183 (1 : Int32) pp xx b219) [(.int 1)]) _
   refine XS.iconst X228.here hx rfl (hb hby at_171) ?_
   show GO p e below T228 (mkF m 172 (la17 p0 p1 p2 p3 p4 p5 uw xl r_183 (1 : Int32) pp xx b219) [(.int 3), (.int 1)]) _
   refine XS.icmpYes X228.here hx rfl (pc0 := 172) (pc' := 196) rfl (hb hby at_172) rfl (flt ((by decide) : ¬ ((3 : Int32) < (1 : Int32)))).2.2.2 (by decide) (by decide) ?_
   show GO p e below T228 (mkF m 196 (la17 p0 p1 p2 p3 p4 p5 uw xl r_183 (1 : Int32) pp xx b219) []) _
   refine XS.iload X228.here hx rfl (hb hby at_196) rfl ?_
   show GO p e below T228 (mkF m 198 (la17 p0 p1 p2 p3 p4 p5 uw xl r_183 (1 : Int32) pp xx b219) [(.int 1)]) _
   refine XS.iconst X228.here hx rfl (hb hby at_198) ?_
   show GO p e below T228 (mkF m 199 (la17 p0 p1 p2 p3 p4 p5 uw xl r_183 (1 : Int32) pp xx b219) [(.int 4), (.int 1)]) _
   refine XS.icmpYes X228.here hx rfl (pc0 := 199) (pc' := 223) rfl (hb hby at_199) rfl (flt ((by decide) : ¬ ((4 : Int32) < (1 : Int32)))).2.2.2 (by decide) (by decide) ?_
   show GO p e below T228 (mkF m 223 (la17 p0 p1 p2 p3 p4 p5 uw xl r_183 (1 : Int32) pp xx b219) []) _
   refine XS.iload X228.here hx rfl (hb hby at_223) rfl ?_
   show GO p e below T228 (mkF m 225 (la17 p0 p1 p2 p3 p4 p5 uw xl r_183 (1 : Int32) pp xx b219) [(.int 1)]) _
   refine XS.iconst X228.here hx rfl (hb hby at_225) ?_
   show GO p e below T228 (mkF m 226 (la17 p0 p1 p2 p3 p4 p5 uw xl r_183 (1 : Int32) pp xx b219) [(.int 5), (.int 1)]) _
   refine XS.icmpYes X228.here hx rfl (pc0 := 226) (pc' := 250) rfl (hb hby at_226) rfl (flt ((by decide) : ¬ ((5 : Int32) < (1 : Int32)))).2.2.2 (by decide) (by decide) ?_
   show GO p e below T228 (mkF m 250 (la17 p0 p1 p2 p3 p4 p5 uw xl r_183 (1 : Int32) pp xx b219) []) _
   refine XS.iload X228.here hx rfl (hb hby at_250) rfl ?_
   show GO p e below T228 (mkF m 252 (la17 p0 p1 p2 p3 p4 p5 uw xl r_183 (1 : Int32) pp xx b219) [(.int 1)]) _
   refine XS.bipush X228.here hx rfl (hb hby at_252) ?_
   show GO p e below T228 (mkF m 254 (la17 p0 p1 p2 p3 p4 p5 uw xl r_183 (1 : Int32) pp xx b219) [(.int 6), (.int 1)]) _
   refine XS.icmpYes X228.here hx rfl (pc0 := 254) (pc' := 280) rfl (hb hby at_254) rfl (flt ((by decide) : ¬ ((6 : Int32) < (1 : Int32)))).2.2.2 (by decide) (by decide) ?_
   show GO p e below T228 (mkF m 280 (la17 p0 p1 p2 p3 p4 p5 uw xl r_183 (1 : Int32) pp xx b219) []) _
   refine XS.iload X228.here hx rfl (hb hby at_280) rfl ?_
   show GO p e below T228 (mkF m 282 (la17 p0 p1 p2 p3 p4 p5 uw xl r_183 (1 : Int32) pp xx b219) [(.int 1)]) _
   refine XS.bipush X228.here hx rfl (hb hby at_282) ?_
   show GO p e below T228 (mkF m 284 (la17 p0 p1 p2 p3 p4 p5 uw xl r_183 (1 : Int32) pp xx b219) [(.int 7), (.int 1)]) _
   refine XS.icmpYes X228.here hx rfl (pc0 := 284) (pc' := 310) rfl (hb hby at_284) rfl (flt ((by decide) : ¬ ((7 : Int32) < (1 : Int32)))).2.2.2 (by decide) (by decide) ?_
   show GO p e below T228 (mkF m 310 (la17 p0 p1 p2 p3 p4 p5 uw xl r_183 (1 : Int32) pp xx b219) []) _
   refine XS.iload X228.here hx rfl (hb hby at_310) rfl ?_
   show GO p e below T228 (mkF m 312 (la17 p0 p1 p2 p3 p4 p5 uw xl r_183 (1 : Int32) pp xx b219) [(.int 1)]) _
   refine XS.bipush X228.here hx rfl (hb hby at_312) ?_
   show GO p e below T228 (mkF m 314 (la17 p0 p1 p2 p3 p4 p5 uw xl r_183 (1 : Int32) pp xx b219) [(.int 8), (.int 1)]) _
   refine XS.icmpYes X228.here hx rfl (pc0 := 314) (pc' := 340) rfl (hb hby at_314) rfl (flt ((by decide) : ¬ ((8 : Int32) < (1 : Int32)))).2.2.2 (by decide) (by decide) ?_
   show GO p e below T228 (mkF m 340 (la17 p0 p1 p2 p3 p4 p5 uw xl r_183 (1 : Int32) pp xx b219) []) _
   refine XS.iload X228.here hx rfl (hb hby at_340) rfl ?_
   show GO p e below T228 (mkF m 342 (la17 p0 p1 p2 p3 p4 p5 uw xl r_183 (1 : Int32) pp xx b219) [(.int 1)]) _
   refine XS.bipush X228.here hx rfl (hb hby at_342) ?_
   show GO p e below T228 (mkF m 344 (la17 p0 p1 p2 p3 p4 p5 uw xl r_183 (1 : Int32) pp xx b219) [(.int 9), (.int 1)]) _
   refine XS.icmpYes X228.here hx rfl (pc0 := 344) (pc' := 370) rfl (hb hby at_344) rfl (flt ((by decide) : ¬ ((9 : Int32) < (1 : Int32)))).2.2.2 (by decide) (by decide) ?_
   show GO p e below T228 (mkF m 370 (la17 p0 p1 p2 p3 p4 p5 uw xl r_183 (1 : Int32) pp xx b219) []) _
   refine st233 _ ?_
   show GO p e below T233 (mkF m 373 (la17 p0 p1 p2 p3 p4 p5 uw xl r_183 (1 : Int32) pp xx b219) [(.ref b233)]) _
   refine XS.dup X233.here hx rfl (hb hby at_373) rfl rfl ?_
   show GO p e below T233 (mkF m 374 (la17 p0 p1 p2 p3 p4 p5 uw xl r_183 (1 : Int32) pp xx b219) [(.ref b233), (.ref b233)]) _
   refine XS.aload X233.here hx rfl (hb hby at_374) rfl rfl ?_
   show GO p e below T233 (mkF m 376 (la17 p0 p1 p2 p3 p4 p5 uw xl r_183 (1 : Int32) pp xx b219) [(.ref b219), (.ref b233), (.ref b233)]) _
   refine st240.trans ?_
   show GO p e below T240 (mkF m 379 (la17 p0 p1 p2 p3 p4 p5 uw xl r_183 (1 : Int32) pp xx b219) [(.ref b233)]) _
   refine XS.astore X240.here hx rfl (hb hby at_379) rfl rfl (l' := (la18 p0 p1 p2 p3 p4 p5 uw xl r_183 (1 : Int32) pp xx b219 b233)) rfl ?_
   show GO p e below T240 (mkF m 381 (la18 p0 p1 p2 p3 p4 p5 uw xl r_183 (1 : Int32) pp xx b219 b233) []) _
   refine XS.aload X240.here hx rfl (hb hby at_381) rfl rfl ?_
   show GO p e below T240 (mkF m 383 (la18 p0 p1 p2 p3 p4 p5 uw xl r_183 (1 : Int32) pp xx b219 b233) [(.ref b233)]) _
   refine st245 _ ?_
   show GO p e below T245 (mkF m 386 (la18 p0 p1 p2 p3 p4 p5 uw xl r_183 (1 : Int32) pp xx b219 b233) [(own_pick ([cv_221] : List Int32) u0 u1 u2 u3)]) _
   refine XS.aload X245.here hx rfl (hb hby at_386) rfl rfl ?_
   show GO p e below T245 (mkF m 388 (la18 p0 p1 p2 p3 p4 p5 uw xl r_183 (1 : Int32) pp xx b219 b233) [(.ref b233), (own_pick ([cv_221] : List Int32) u0 u1 u2 u3)]) _
   refine st249.trans ?_
   show GO p e below T249 (mkF m 391 (la18 p0 p1 p2 p3 p4 p5 uw xl r_183 (1 : Int32) pp xx b219 b233) [(own_pick ([cv_221] : List Int32) u0 u1 u2 u3), (own_pick ([cv_221] : List Int32) u0 u1 u2 u3)]) _
   refine Jvm.RoadKit.acmp (g := (mkF m 391 (la18 p0 p1 p2 p3 p4 p5 uw xl r_183 (1 : Int32) pp xx b219 b233) [(own_pick ([cv_221] : List Int32) u0 u1 u2 u3), (own_pick ([cv_221] : List Int32) u0 u1 u2 u3)])) X249 hx rfl (own_pickref _ _ _ _ _) (own_pickref _ _ _ _ _) (pc0 := 391) (pc' := 394) (same := true) rfl (hb hby at_391) rfl (decide_eq_true rfl) (by decide) (by decide) ?_
   show GO p e below T249 (mkF m 394 (la18 p0 p1 p2 p3 p4 p5 uw xl r_183 (1 : Int32) pp xx b219 b233) []) _
   refine XS.iconst X249.here hx rfl (hb hby at_394) ?_
   show GO p e below T249 (mkF m 395 (la18 p0 p1 p2 p3 p4 p5 uw xl r_183 (1 : Int32) pp xx b219 b233) [(.int 1)]) _
   refine XS.goto X249.here hx rfl (pc0 := 395) (pc' := 399) rfl (hb hby at_395) (by decide) (by decide) ?_
   show GO p e below T249 (mkF m 399 (la18 p0 p1 p2 p3 p4 p5 uw xl r_183 (1 : Int32) pp xx b219 b233) [(.int 1)]) _
   exact retN X249 hx (t := .boolean) Bd.returns (by simp) (hb hby at_399) hr
  ·show Qrm0 Z p0 p1 p2 p3 p4 p5 z0 f0 va u0 u1 u2 u3 w0 w1 w2 w3 y0 y1 y2 y3 kV b0 b1 b2 b3 h0 n0 _ T249.heap _
   rw [e249]
   exact ⟨rfl, N249⟩
  ·show CHr Z EL1 s.vm s.heap T249.vm T249.heap
   rw [hh, e249]
   exact CE
 ·obtain ⟨T256, h256, k256, X256, e256, E256, A256, st256⟩ := newP X186 hx hZ183 (wd hw 13 rfl) e186 (g := (mkF m 85 (la16 p0 p1 p2 p3 p4 p5 uw xl r_183 (2 : Int32) pp xx) [(.int 2)])) rfl (hb hby at_85) rfl (by decide) (cap := 2) (by decide) (by decide) (by decide) (by decide)
  obtain ⟨b256, g256⟩ : ∃ z, z = h183.size := ⟨_, rfl⟩
  rw [← g256] at A256 st256
  have C257 : CHr Z EL1 s.vm h0 T183.vm h256 := C184.trans (CHr.ext E256 C184.1)
  have sz256 : h183.size ≤ h256.size := E256.1
  have nz256 := Nat.le_trans nz183 sz256
  have lt256 := ltA A256.lt
  have V256 : Arv Z h256 b256 k256 .char (2 : Int32) [(.int 0), (.int 0)] (.int 0) := (Arv.new A256 (by decide)).pad (pad_rep [] (.int 0) 2)
  -- pc 111: KindNamedPinLaw.at by rm_at
  have f259 : Old Z n0 h256 := ((O0.keep K183 all0).ext E256)
  have f260 : Exa Z h256 r_183 kS0 := (p183_0.ext E256)
  have f261 : Fld Z h256 r_183 kS0 "coder" "B" (.int 0) := (p183_1.ext E256)
  have f262 : Fld Z h256 r_183 kS0 "value" "[B" (.ref t_183) := (p183_2.ext E256)
  have f263 : Arv Z h256 t_183 k_183 .byte N_183 vs_183 (.int 0) := (p183_3.ext E256)
  obtain ⟨_, _, ⟨T258, L258, k258, n258⟩, -, X258, ⟨Lc258, hQ258, l258, y258, z258⟩, st258⟩ := Jvm.LawKit.callS X256 hx (y := (⟨kS1, "at", kS3⟩ : MethodName)) hown183 (mvT hZ183 (wd hw 14 rfl)) (mvT hZ183 (wd hw 15 rfl)) (mvT hZ183 (wd hw 2 rfl)) (mvT hZ183 (wd hw 16 rfl)) (by decide) (backOf (W := 2) (rm_at l Z a0 hw [] (0 : Int32) uw pp xx p3 p4 p5 r_183 t_183 k_183 N_183 vs_183 cs_183 z0 f0 h256 n0 nz256 f259 f260 f261 f262 f263 (by first | assumption | decide | omega) (by first | assumption | decide | omega) (by first | assumption | decide | omega) (by first | assumption | decide | omega) r183_0 r183_1 r183_2 r183_3 (by decide) rxx qxx) hZ183 (wd hw 16 rfl) (wd hw 2 rfl) (by decide) (by decide)) (g := (mkF m 111 (la17 p0 p1 p2 p3 p4 p5 uw xl r_183 (2 : Int32) pp xx b256) [(.int p5), (.int p4), (.int p3), (.int xx), (.int pp), (.int uw), (.ref r_183), (.int 0), (.int 0), (.ref b256)])) rfl (by rw [hml]; rfl) (argsL := [(.int 0), (.ref r_183), (.int uw), (.int pp), (.int xx), (.int p3), (.int p4), (.int p5)]) (rest := [(.int 0), (.ref b256)]) (lenOf pd_9 rfl) rfl (wz rfl) (hb hby at_111) (fun _ _ => ⟨rfl, e256, (by decide : 3 + 0 ≤ _), (by decide : 42 + 0 ≤ _)⟩)
  dsimp only [Pt.U, Pt.locs, Pt.cells, Pt.slots] at X258 l258 y258 z258 st258 hQ258
  rw [l258, y258, z258] at X258
  obtain ⟨cv_258, rfl, N258q, e258, r258_0, r258_1⟩ := hQ258
  have N258 := Fr.app N186 N258q
  obtain ⟨cl264, Ar264, q264, S264, M264, H264, G264⟩ := id V256
  have hin264 : ¬ ((0 : Int32) < 0 ∨ cl264.slots.size ≤ ((0 : Int32)).toNatClampNeg) := inb_of S264 ⟨by decide, by decide⟩
  obtain ⟨T265, h265, X265, e265, W265, st265⟩ := stC X258 hx hZ183 e258 Ar264 (j := (0 : Int32)) hin264 (g := (mkF m 114 (la17 p0 p1 p2 p3 p4 p5 uw xl r_183 (2 : Int32) pp xx b256) [(.int cv_258), (.int 0), (.ref b256)])) rfl rfl (hb hby at_114)
  have ge266 : n0 ≤ b256 := by omega
  have N265 := Fr.snoc X265 N258 ge266
  have ne267 : b256 ≠ r_183 := Ne.symm (Exa.neArv f260 V256 (wd hw 6 rfl))
  have C268 : CHr Z EL1 s.vm h0 T183.vm h265 := C257.trans (CHr.wr W265 (Safe.arv hZ183.alike V256 (by decide)) C257.1)
  have sz265 : h256.size ≤ h265.size := Nat.le_of_eq W265.size.symm
  have nz265 := Nat.le_trans nz256 sz265
  have V265 : Arv Z h265 b256 k256 .char (2 : Int32) [(.int (nar .char cv_258)), (.int 0)] (.int 0) := Arv.set Ar264 q264 S264 M264 H264 G264 (fits_nar_char _) W265 0 rfl (Nat.le_of_ble_eq_true rfl)
  -- pc 138: KindNamedPinLaw.at by rm_at
  have f270 : Old Z n0 h265 := (f259.wr W265 ge266)
  have f271 : Exa Z h265 r_183 kS0 := (f260.wr W265)
  have f272 : Fld Z h265 r_183 kS0 "coder" "B" (.int 0) := (f261.other W265 (Or.inl (Ne.symm ne267)))
  have f273 : Fld Z h265 r_183 kS0 "value" "[B" (.ref t_183) := (f262.other W265 (Or.inl (Ne.symm ne267)))
  have ne274 : t_183 ≠ b256 := neN (by omega)
  have f275 : Arv Z h265 t_183 k_183 .byte N_183 vs_183 (.int 0) := (f263.other W265 ne274)
  obtain ⟨_, _, ⟨T269, L269, k269, n269⟩, -, X269, ⟨Lc269, hQ269, l269, y269, z269⟩, st269⟩ := Jvm.LawKit.callS X265 hx (y := (⟨kS1, "at", kS3⟩ : MethodName)) hown183 (mvT hZ183 (wd hw 14 rfl)) (mvT hZ183 (wd hw 15 rfl)) (mvT hZ183 (wd hw 2 rfl)) (mvT hZ183 (wd hw 16 rfl)) (by decide) (backOf (W := 2) (rm_at l Z a0 hw [] (1 : Int32) uw pp xx p3 p4 p5 r_183 t_183 k_183 N_183 vs_183 cs_183 z0 f0 h265 n0 nz265 f270 f271 f272 f273 f275 (by first | assumption | decide | omega) (by first | assumption | decide | omega) (by first | assumption | decide | omega) (by first | assumption | decide | omega) r183_0 r183_1 r183_2 r183_3 (by decide) rxx qxx) hZ183 (wd hw 16 rfl) (wd hw 2 rfl) (by decide) (by decide)) (g := (mkF m 138 (la17 p0 p1 p2 p3 p4 p5 uw xl r_183 (2 : Int32) pp xx b256) [(.int p5), (.int p4), (.int p3), (.int xx), (.int pp), (.int uw), (.ref r_183), (.int 1), (.int 1), (.ref b256)])) rfl (by rw [hml]; rfl) (argsL := [(.int 1), (.ref r_183), (.int uw), (.int pp), (.int xx), (.int p3), (.int p4), (.int p5)]) (rest := [(.int 1), (.ref b256)]) (lenOf pd_9 rfl) rfl (wz rfl) (hb hby at_138) (fun _ _ => ⟨rfl, e265, (by decide : 3 + 0 ≤ _), (by decide : 42 + 0 ≤ _)⟩)
  dsimp only [Pt.U, Pt.locs, Pt.cells, Pt.slots] at X269 l269 y269 z269 st269 hQ269
  rw [l269, y269, z269] at X269
  obtain ⟨cv_269, rfl, N269q, e269, r269_0, r269_1⟩ := hQ269
  have N269 := Fr.app N265 N269q
  obtain ⟨cl276, Ar276, q276, S276, M276, H276, G276⟩ := id V265
  have hin276 : ¬ ((1 : Int32) < 0 ∨ cl276.slots.size ≤ ((1 : Int32)).toNatClampNeg) := inb_of S276 ⟨by decide, by decide⟩
  obtain ⟨T277, h277, X277, e277, W277, st277⟩ := stC X269 hx hZ183 e269 Ar276 (j := (1 : Int32)) hin276 (g := (mkF m 141 (la17 p0 p1 p2 p3 p4 p5 uw xl r_183 (2 : Int32) pp xx b256) [(.int cv_269), (.int 1), (.ref b256)])) rfl rfl (hb hby at_141)
  have N277 := Fr.snoc X277 N269 ge266
  have C278 : CHr Z EL1 s.vm h0 T183.vm h277 := C268.trans (CHr.wr W277 (Safe.arv hZ183.alike V265 (by decide)) C268.1)
  have sz277 : h265.size ≤ h277.size := Nat.le_of_eq W277.size.symm
  have nz277 := Nat.le_trans nz265 sz277
  have V277 : Arv Z h277 b256 k256 .char (2 : Int32) [(.int (nar .char cv_258)), (.int (nar .char cv_269))] (.int 0) := Arv.set Ar276 q276 S276 M276 H276 G276 (fits_nar_char _) W277 1 rfl (Nat.le_of_ble_eq_true rfl)
  have V279 : Arv Z h277 b256 k256 .char (2 : Int32) [(.int cv_258), (.int cv_269)] (.int 0) := by
   have q := V277
   rw [r258_1, r269_1] at q
   exact q
  obtain ⟨T280, h280, X280, e280, E280, A280, D280, U280, st280⟩ := newO X277 hx hZ183 hown183 (wd hw 20 rfl) (wd hw 6 rfl) (wd hw 5 rfl) e277 (g := (mkF m 370 (la17 p0 p1 p2 p3 p4 p5 uw xl r_183 (2 : Int32) pp xx b256) [])) rfl (hb hby at_370) (by decide) (by decide)
  obtain ⟨b280, g280⟩ : ∃ z, z = h277.size := ⟨_, rfl⟩
  rw [← g280] at A280 D280 U280 st280
  have C281 : CHr Z EL1 s.vm h0 T183.vm h280 := C278.trans (CHr.ext E280 C278.1)
  have sz280 : h277.size ≤ h280.size := E280.1
  have nz280 := Nat.le_trans nz277 sz280
  have lt280 := ltA A280.lt
  have B280 : Safe Z EL1 T183.vm h280 b280 := Safe.ext E280 C278.1 (Safe.new (by omega))
  have f282 : Fld Z h280 b280 kS0 "value" "[B" .null := D280 (Or.inr (wd hw 8 rfl)) (ty := (.array .byte)) (by decide)
  have f283 : Fld Z h280 b280 kS0 "coder" "B" (.int 0) := D280 (Or.inr (wd hw 9 rfl)) (ty := .byte) (by decide)
  have f284 : Arv Z h280 b256 k256 .char (2 : Int32) [(.int cv_258), (.int cv_269)] (.int 0) := (V279.ext E280)
  have f285 : Old Z n0 h280 := ((f270.wr W277 ge266).ext E280)
  have S286 : Sta Z h280 kS0 "COMPACT_STRINGS" "Z" (.int z0) := SZc.ext f285.2
  obtain ⟨v287, _, ⟨T287, L287, k287, n287⟩, -, X287, ⟨Lc287, hQ287, l287, y287, z287⟩, st287⟩ := X280.specialBack hx (y := (⟨kS0, "<init>", "([C)V"⟩ : MethodName)) rfl hown183 (mvT hZ183 (wd hw 21 rfl)) (mvT hZ183 (wd hw 22 rfl)) (mvT hZ183 (wd hw 23 rfl)) (by decide) (StrChars.Road.backV (W := 1) hZ183 (own_hws hw) (kI := 4) (wd hw 6 rfl) (cs := ([cv_258, cv_269] : List Int32)) (bs := ([cv_258, cv_269] : List Int32).map (fun c => c.toInt8.toInt32)) (n := 2) (n0 := n0) (by omega) (by omega) A280 f282 f283 f284 S286 hz0 rfl rfl (by decide) (by decide) (own_allS r258_0 (own_allS r269_0 own_all0)) rfl (by decide) (by decide)) (g := (mkF m 376 (la17 p0 p1 p2 p3 p4 p5 uw xl r_183 (2 : Int32) pp xx b256) [(.ref b256), (.ref b280), (.ref b280)])) rfl (by rw [hml]; rfl) (Steps.refl _) (a := b280) (argsL := [(.ref b256)]) (rest := [(.ref b280)]) (lenOf pd_7 rfl) rfl (wz rfl) (hb hby at_376) (fun _ _ => ⟨rfl, e280, (by decide : 4 + 1 ≤ _), (by decide : 46 + 2 ≤ _)⟩)
  dsimp only [Pt.U, Pt.locs, Pt.cells, Pt.slots] at X287 l287 y287 z287 st287 hQ287
  rw [l287, y287, z287] at X287
  obtain ⟨h287, e287⟩ : ∃ z, T287.heap = z := ⟨_, rfl⟩
  rw [e287] at hQ287
  obtain ⟨rfl, N287q, K287, A287, Fc287, t287, kb287, u287, lo287, nt287, Fv287, V287⟩ := hQ287
  have N287 := Fr.app N277 N287q
  have f288 : Arv Z h280 t_183 k_183 .byte N_183 vs_183 (.int 0) := ((f275.other W277 ne274).ext E280)
  have ne289 : b280 ≠ t_183 := Exa.neArv A280 f288 (wd hw 6 rfl)
  have C290 : CHr Z EL1 s.vm h0 T183.vm h287 := C281.trans (CHr.keep K287 (sfS B280 sf0) C281.1)
  have sz287 : h280.size ≤ h287.size := K287.1
  have nz287 := Nat.le_trans nz280 sz287
  have lt287 := ltA V287.lt
  have hcd287 : StrChars.Road.CodA ([cv_258, cv_269] : List Int32) 0 (2 : Int32) ((([cv_258, cv_269] : List Int32).map (fun c => c.toInt8.toInt32)).map Value.int) := own_codn rfl (fun c hc => ((own_allS r258_0 (own_allS r269_0 own_all0)) c hc).2)
  -- pc 383: Kind.named by rm_named
  have ge292 : n0 ≤ b280 := by omega
  have f293 : Old Z n0 h287 := (f285.keep K287 (allS ge292 all0))
  obtain ⟨_, _, ⟨T291, L291, k291, n291⟩, -, X291, ⟨Lc291, hQ291, l291, y291, z291⟩, st291⟩ := Jvm.LawKit.callS X287 hx (y := (⟨"com/example/rolegrant/rolegrant/policy/Kind", "named", kS2⟩ : MethodName)) hown183 (mvT hZ183 (wd hw 44 rfl)) (mvT hZ183 (wd hw 45 rfl)) (mvT hZ183 (wd hw 46 rfl)) (mvT hZ183 (wd hw 47 rfl)) (by decide) (backOf (W := 0) (rm_named l Z a0 hw [] b280 t287 kb287 (2 : Int32) ((([cv_258, cv_269] : List Int32).map (fun c => c.toInt8.toInt32)).map Value.int) ([cv_258, cv_269] : List Int32) z0 va u0 u1 u2 u3 w0 w1 w2 w3 y0 y1 y2 y3 kV b0 b1 b2 b3 h287 n0 nz287 f293 A287 Fc287 Fv287 V287 (by first | assumption | decide | omega) (by first | assumption | decide | omega) hcd287 (own_up (own_allS r258_0 (own_allS r269_0 own_all0))) (Nat.le_of_ble_eq_true rfl) (by first | assumption | decide | omega)) hZ183 (wd hw 47 rfl) (wd hw 46 rfl) (by decide) (by decide)) (g := (mkF m 383 (la18 p0 p1 p2 p3 p4 p5 uw xl r_183 (2 : Int32) pp xx b256 b280) [(.ref b280)])) rfl (by rw [hml]; rfl) (argsL := [(.ref b280)]) (rest := []) (lenOf pd_8 rfl) rfl (wz rfl) (hb hby at_383) (fun _ _ => ⟨rfl, e287, (by decide : 5 + 1 ≤ _), (by decide : 48 + 4 ≤ _)⟩)
  dsimp only [Pt.U, Pt.locs, Pt.cells, Pt.slots] at X291 l291 y291 z291 st291 hQ291
  rw [l291, y291, z291] at X291
  obtain ⟨h291, e291⟩ : ∃ z, T291.heap = z := ⟨_, rfl⟩
  rw [e291] at hQ291
  obtain ⟨rfl, N291q, K291⟩ := hQ291
  have N291 := Fr.app N287 N291q
  have C294 : CHr Z EL1 s.vm h0 T183.vm h291 := C290.trans (CHr.keep K291 sf0 C290.1)
  have sz291 : h287.size ≤ h291.size := K291.1
  have nz291 := Nat.le_trans nz287 sz291
  -- pc 388: KindNamedPinLaw.expected by rm_exp
  have f296 : Old Z n0 h291 := (f293.keep K291 all0)
  have f297 : Exa Z h291 b280 kS0 := (A287.keep K291)
  have f298 : Fld Z h291 b280 kS0 "coder" "B" (.int 0) := (Fc287.keep K291 nin0)
  have f299 : Fld Z h291 b280 kS0 "value" "[B" (.ref t287) := (Fv287.keep K291 nin0)
  have f300 : Arv Z h291 t287 kb287 .byte (2 : Int32) ((([cv_258, cv_269] : List Int32).map (fun c => c.toInt8.toInt32)).map Value.int) (.int 0) := (V287.keep K291 nin0)
  obtain ⟨_, _, ⟨T295, L295, k295, n295⟩, -, X295w, hS295w, gr295, ⟨Lc295, hQ295, l295, y295, z295, C295w⟩, st295⟩ := callSS X291 hx (y := (⟨kS1, "expected", kS2⟩ : MethodName)) hown183 (mvT hZ183 (wd hw 79 rfl)) (mvT hZ183 (wd hw 80 rfl)) (mvT hZ183 (wd hw 2 rfl)) (mvT hZ183 (wd hw 81 rfl)) (by decide) (own_backS (W := 1) (rm_exp l Z a0 hw [] b280 t287 kb287 (2 : Int32) ((([cv_258, cv_269] : List Int32).map (fun c => c.toInt8.toInt32)).map Value.int) ([cv_258, cv_269] : List Int32) z0 va u0 u1 u2 u3 w0 w1 w2 w3 y0 y1 y2 y3 kV b0 b1 b2 b3 h291 n0 nz291 f296 f297 f298 f299 f300 (by first | assumption | decide | omega) (by first | assumption | decide | omega) hcd287 (own_up (own_allS r258_0 (own_allS r269_0 own_all0))) (Nat.le_of_ble_eq_true rfl) (by first | assumption | decide | omega)) hZ183 (wd hw 81 rfl) (wd hw 2 rfl) (by decide) (by decide) (own_EW hw) C294.1 sf0 all0) (g := (mkF m 388 (la18 p0 p1 p2 p3 p4 p5 uw xl r_183 (2 : Int32) pp xx b256 b280) [(.ref b280), (own_pick ([cv_258, cv_269] : List Int32) u0 u1 u2 u3)])) rfl (by rw [hml]; rfl) (argsL := [(.ref b280)]) (rest := [(own_pick ([cv_258, cv_269] : List Int32) u0 u1 u2 u3)]) (lenOf pd_8 rfl) rfl (own_wx _ _ _ _ _) (hb hby at_388) (fun _ _ => ⟨rfl, e291, (by decide : 6 + 8 ≤ _), (by decide : 52 + 104 ≤ _)⟩)
  dsimp only [Pt.U, Pt.locs, Pt.cells, Pt.slots] at X295w hS295w gr295 l295 y295 z295 st295 hQ295 C295w
  rw [l295, y295, z295] at X295w
  obtain ⟨X295, hS295, hZ295, hown295⟩ := rebS hS183 (by rw [e291]; omega) X295w hS295w gr295 hZ183 hown183
  obtain ⟨h295, e295⟩ : ∃ z, T295.heap = z := ⟨_, rfl⟩
  rw [e295] at hQ295
  obtain ⟨rfl, N295q, K295⟩ := hQ295
  have N295 := Fr.app N291 N295q
  rw [e295] at C295w hS295
  have hk295 : h295.size ≤ h295.size := Nat.le_refl _
  have C301 : CHr Z EL1 s.vm h0 T295.vm h295 := C294.trans (C295w)
  have sz295 : h291.size ≤ h295.size := K295.1
  have nz295 := Nat.le_trans nz291 sz295
  obtain ⟨fs, hr, hrun, hended, hE⟩ := X295.leaveW hS295 (by rw [e295]; omega) (v := some (.int 1)) (fun h => by rw [Bd.returns] at h; cases h)
  have CE := C301.trans (CHv.at X295 hZ295 (own_EW hw) C301.1)
  refine ⟨_, _, pre196 _ ?_, hrun, hended, _, _, rfl, ?_, ?_, ⟨hE.1, hE.2.1, hE.2.2.1, hE.2.2.2.mono (by decide) (by decide)⟩⟩
  ·show GO p e below T186 (mkF m 83 (la16 p0 p1 p2 p3 p4 p5 uw xl r_183 (2 : Int32) pp xx) []) _
   refine XS.iload X186.here hx rfl (hb hby at_83) rfl ?_
   show GO p e below T186 (mkF m 85 (la16 p0 p1 p2 p3 p4 p5 uw xl r_183 (2 : Int32) pp xx) [(.int 2)]) _
   refine st256 _ ?_
   show GO p e below T256 (mkF m 87 (la16 p0 p1 p2 p3 p4 p5 uw xl r_183 (2 : Int32) pp xx) [(.ref b256)]) _
   refine XS.astore X256.here hx rfl (hb hby at_87) rfl rfl (l' := (la17 p0 p1 p2 p3 p4 p5 uw xl r_183 (2 : Int32) pp xx b256)) rfl ?_
   show GO p e below T256 (mkF m 89 (la17 p0 p1 p2 p3 p4 p5 uw xl r_183 (2 : Int32) pp xx b256) []) _
   refine XS.iload X256.here hx rfl (hb hby at_89) rfl ?_
   show GO p e below T256 (mkF m 91 (la17 p0 p1 p2 p3 p4 p5 uw xl r_183 (2 : Int32) pp xx b256) [(.int 2)]) _
   refine XS.ifNo X256.here hx rfl (hb hby at_91) rfl ((if0 _ _).trans (tlt ((by decide) : (0 : Int32) < (2 : Int32))).2.2.2) ?_
   show GO p e below T256 (mkF m 94 (la17 p0 p1 p2 p3 p4 p5 uw xl r_183 (2 : Int32) pp xx b256) []) _
   refine XS.aload X256.here hx rfl (hb hby at_94) rfl rfl ?_
   show GO p e below T256 (mkF m 96 (la17 p0 p1 p2 p3 p4 p5 uw xl r_183 (2 : Int32) pp xx b256) [(.ref b256)]) _
   refine XS.iconst X256.here hx rfl (hb hby at_96) ?_
   show GO p e below T256 (mkF m 97 (la17 p0 p1 p2 p3 p4 p5 uw xl r_183 (2 : Int32) pp xx b256) [(.int 0), (.ref b256)]) _
   refine XS.iconst X256.here hx rfl (hb hby at_97) ?_
   show GO p e below T256 (mkF m 98 (la17 p0 p1 p2 p3 p4 p5 uw xl r_183 (2 : Int32) pp xx b256) [(.int 0), (.int 0), (.ref b256)]) _
   refine XS.aload X256.here hx rfl (hb hby at_98) rfl rfl ?_
   show GO p e below T256 (mkF m 100 (la17 p0 p1 p2 p3 p4 p5 uw xl r_183 (2 : Int32) pp xx b256) [(.ref r_183), (.int 0), (.int 0), (.ref b256)]) _
   refine XS.iload X256.here hx rfl (hb hby at_100) rfl ?_
   show GO p e below T256 (mkF m 102 (la17 p0 p1 p2 p3 p4 p5 uw xl r_183 (2 : Int32) pp xx b256) [(.int uw), (.ref r_183), (.int 0), (.int 0), (.ref b256)]) _
   refine XS.iload X256.here hx rfl (hb hby at_102) rfl ?_
   show GO p e below T256 (mkF m 104 (la17 p0 p1 p2 p3 p4 p5 uw xl r_183 (2 : Int32) pp xx b256) [(.int pp), (.int uw), (.ref r_183), (.int 0), (.int 0), (.ref b256)]) _
   refine XS.iload X256.here hx rfl (hb hby at_104) rfl ?_
   show GO p e below T256 (mkF m 106 (la17 p0 p1 p2 p3 p4 p5 uw xl r_183 (2 : Int32) pp xx b256) [(.int xx), (.int pp), (.int uw), (.ref r_183), (.int 0), (.int 0), (.ref b256)]) _
   refine XS.iloadN X256.here hx rfl (hb hby at_106) rfl ?_
   show GO p e below T256 (mkF m 107 (la17 p0 p1 p2 p3 p4 p5 uw xl r_183 (2 : Int32) pp xx b256) [(.int p3), (.int xx), (.int pp), (.int uw), (.ref r_183), (.int 0), (.int 0), (.ref b256)]) _
   refine XS.iload X256.here hx rfl (hb hby at_107) rfl ?_
   show GO p e below T256 (mkF m 109 (la17 p0 p1 p2 p3 p4 p5 uw xl r_183 (2 : Int32) pp xx b256) [(.int p4), (.int p3), (.int xx), (.int pp), (.int uw), (.ref r_183), (.int 0), (.int 0), (.ref b256)]) _
   refine XS.iload X256.here hx rfl (hb hby at_109) rfl ?_
   show GO p e below T256 (mkF m 111 (la17 p0 p1 p2 p3 p4 p5 uw xl r_183 (2 : Int32) pp xx b256) [(.int p5), (.int p4), (.int p3), (.int xx), (.int pp), (.int uw), (.ref r_183), (.int 0), (.int 0), (.ref b256)]) _
   refine st258 _ ?_
   show GO p e below T258 (mkF m 114 (la17 p0 p1 p2 p3 p4 p5 uw xl r_183 (2 : Int32) pp xx b256) [(.int cv_258), (.int 0), (.ref b256)]) _
   refine st265 _ ?_
   show GO p e below T265 (mkF m 115 (la17 p0 p1 p2 p3 p4 p5 uw xl r_183 (2 : Int32) pp xx b256) []) _
   refine XS.iload X265.here hx rfl (hb hby at_115) rfl ?_
   show GO p e below T265 (mkF m 117 (la17 p0 p1 p2 p3 p4 p5 uw xl r_183 (2 : Int32) pp xx b256) [(.int 2)]) _
   refine XS.iconst X265.here hx rfl (hb hby at_117) ?_
   show GO p e below T265 (mkF m 118 (la17 p0 p1 p2 p3 p4 p5 uw xl r_183 (2 : Int32) pp xx b256) [(.int 1), (.int 2)]) _
   refine XS.icmpNo X265.here hx rfl (hb hby at_118) rfl (tlt ((by decide) : (1 : Int32) < (2 : Int32))).2.2.2 ?_
   show GO p e below T265 (mkF m 121 (la17 p0 p1 p2 p3 p4 p5 uw xl r_183 (2 : Int32) pp xx b256) []) _
   refine XS.aload X265.here hx rfl (hb hby at_121) rfl rfl ?_
   show GO p e below T265 (mkF m 123 (la17 p0 p1 p2 p3 p4 p5 uw xl r_183 (2 : Int32) pp xx b256) [(.ref b256)]) _
   refine XS.iconst X265.here hx rfl (hb hby at_123) ?_
   show GO p e below T265 (mkF m 124 (la17 p0 p1 p2 p3 p4 p5 uw xl r_183 (2 : Int32) pp xx b256) [(.int 1), (.ref b256)]) _
   refine XS.iconst X265.here hx rfl (hb hby at_124) ?_
   show GO p e below T265 (mkF m 125 (la17 p0 p1 p2 p3 p4 p5 uw xl r_183 (2 : Int32) pp xx b256) [(.int 1), (.int 1), (.ref b256)]) _
   refine XS.aload X265.here hx rfl (hb hby at_125) rfl rfl ?_
   show GO p e below T265 (mkF m 127 (la17 p0 p1 p2 p3 p4 p5 uw xl r_183 (2 : Int32) pp xx b256) [(.ref r_183), (.int 1), (.int 1), (.ref b256)]) _
   refine XS.iload X265.here hx rfl (hb hby at_127) rfl ?_
   show GO p e below T265 (mkF m 129 (la17 p0 p1 p2 p3 p4 p5 uw xl r_183 (2 : Int32) pp xx b256) [(.int uw), (.ref r_183), (.int 1), (.int 1), (.ref b256)]) _
   refine XS.iload X265.here hx rfl (hb hby at_129) rfl ?_
   show GO p e below T265 (mkF m 131 (la17 p0 p1 p2 p3 p4 p5 uw xl r_183 (2 : Int32) pp xx b256) [(.int pp), (.int uw), (.ref r_183), (.int 1), (.int 1), (.ref b256)]) _
   refine XS.iload X265.here hx rfl (hb hby at_131) rfl ?_
   show GO p e below T265 (mkF m 133 (la17 p0 p1 p2 p3 p4 p5 uw xl r_183 (2 : Int32) pp xx b256) [(.int xx), (.int pp), (.int uw), (.ref r_183), (.int 1), (.int 1), (.ref b256)]) _
   refine XS.iloadN X265.here hx rfl (hb hby at_133) rfl ?_
   show GO p e below T265 (mkF m 134 (la17 p0 p1 p2 p3 p4 p5 uw xl r_183 (2 : Int32) pp xx b256) [(.int p3), (.int xx), (.int pp), (.int uw), (.ref r_183), (.int 1), (.int 1), (.ref b256)]) _
   refine XS.iload X265.here hx rfl (hb hby at_134) rfl ?_
   show GO p e below T265 (mkF m 136 (la17 p0 p1 p2 p3 p4 p5 uw xl r_183 (2 : Int32) pp xx b256) [(.int p4), (.int p3), (.int xx), (.int pp), (.int uw), (.ref r_183), (.int 1), (.int 1), (.ref b256)]) _
   refine XS.iload X265.here hx rfl (hb hby at_136) rfl ?_
   show GO p e below T265 (mkF m 138 (la17 p0 p1 p2 p3 p4 p5 uw xl r_183 (2 : Int32) pp xx b256) [(.int p5), (.int p4), (.int p3), (.int xx), (.int pp), (.int uw), (.ref r_183), (.int 1), (.int 1), (.ref b256)]) _
   refine st269 _ ?_
   show GO p e below T269 (mkF m 141 (la17 p0 p1 p2 p3 p4 p5 uw xl r_183 (2 : Int32) pp xx b256) [(.int cv_269), (.int 1), (.ref b256)]) _
   refine st277 _ ?_
   show GO p e below T277 (mkF m 142 (la17 p0 p1 p2 p3 p4 p5 uw xl r_183 (2 : Int32) pp xx b256) []) _
   refine XS.iload X277.here hx rfl (hb hby at_142) rfl ?_
   show GO p e below T277 (mkF m 144 (la17 p0 p1 p2 p3 p4 p5 uw xl r_183 (2 : Int32) pp xx b256) [(.int 2)]) _
   refine XS.iconst X277.here hx rfl (hb hby at_144) ?_
   show GO p e below T277 (mkF m 145 (la17 p0 p1 p2 p3 p4 p5 uw xl r_183 (2 : Int32) pp xx b256) [(.int 2), (.int 2)]) _
   refine XS.icmpYes X277.here hx rfl (pc0 := 145) (pc' := 169) rfl (hb hby at_145) rfl (flt ((by decide) : ¬ ((2 : Int32) < (2 : Int32)))).2.2.2 (by decide) (by decide) ?_
   show GO p e below T277 (mkF m 169 (la17 p0 p1 p2 p3 p4 p5 uw xl r_183 (2 : Int32) pp xx b256) []) _
   refine XS.iload X277.here hx rfl (hb hby at_169) rfl ?_
   show GO p e below T277 (mkF m 171 (la17 p0 p1 p2 p3 p4 p5 uw xl r_183 (2 : Int32) pp xx b256) [(.int 2)]) _
   refine XS.iconst X277.here hx rfl (hb hby at_171) ?_
   show GO p e below T277 (mkF m 172 (la17 p0 p1 p2 p3 p4 p5 uw xl r_183 (2 : Int32) pp xx b256) [(.int 3), (.int 2)]) _
   refine XS.icmpYes X277.here hx rfl (pc0 := 172) (pc' := 196) rfl (hb hby at_172) rfl (flt ((by decide) : ¬ ((3 : Int32) < (2 : Int32)))).2.2.2 (by decide) (by decide) ?_
   show GO p e below T277 (mkF m 196 (la17 p0 p1 p2 p3 p4 p5 uw xl r_183 (2 : Int32) pp xx b256) []) _
   refine XS.iload X277.here hx rfl (hb hby at_196) rfl ?_
   show GO p e below T277 (mkF m 198 (la17 p0 p1 p2 p3 p4 p5 uw xl r_183 (2 : Int32) pp xx b256) [(.int 2)]) _
   refine XS.iconst X277.here hx rfl (hb hby at_198) ?_
   show GO p e below T277 (mkF m 199 (la17 p0 p1 p2 p3 p4 p5 uw xl r_183 (2 : Int32) pp xx b256) [(.int 4), (.int 2)]) _
   refine XS.icmpYes X277.here hx rfl (pc0 := 199) (pc' := 223) rfl (hb hby at_199) rfl (flt ((by decide) : ¬ ((4 : Int32) < (2 : Int32)))).2.2.2 (by decide) (by decide) ?_
   show GO p e below T277 (mkF m 223 (la17 p0 p1 p2 p3 p4 p5 uw xl r_183 (2 : Int32) pp xx b256) []) _
   refine XS.iload X277.here hx rfl (hb hby at_223) rfl ?_
   show GO p e below T277 (mkF m 225 (la17 p0 p1 p2 p3 p4 p5 uw xl r_183 (2 : Int32) pp xx b256) [(.int 2)]) _
   refine XS.iconst X277.here hx rfl (hb hby at_225) ?_
   show GO p e below T277 (mkF m 226 (la17 p0 p1 p2 p3 p4 p5 uw xl r_183 (2 : Int32) pp xx b256) [(.int 5), (.int 2)]) _
   refine XS.icmpYes X277.here hx rfl (pc0 := 226) (pc' := 250) rfl (hb hby at_226) rfl (flt ((by decide) : ¬ ((5 : Int32) < (2 : Int32)))).2.2.2 (by decide) (by decide) ?_
   show GO p e below T277 (mkF m 250 (la17 p0 p1 p2 p3 p4 p5 uw xl r_183 (2 : Int32) pp xx b256) []) _
   refine XS.iload X277.here hx rfl (hb hby at_250) rfl ?_
   show GO p e below T277 (mkF m 252 (la17 p0 p1 p2 p3 p4 p5 uw xl r_183 (2 : Int32) pp xx b256) [(.int 2)]) _
   refine XS.bipush X277.here hx rfl (hb hby at_252) ?_
   show GO p e below T277 (mkF m 254 (la17 p0 p1 p2 p3 p4 p5 uw xl r_183 (2 : Int32) pp xx b256) [(.int 6), (.int 2)]) _
   refine XS.icmpYes X277.here hx rfl (pc0 := 254) (pc' := 280) rfl (hb hby at_254) rfl (flt ((by decide) : ¬ ((6 : Int32) < (2 : Int32)))).2.2.2 (by decide) (by decide) ?_
   show GO p e below T277 (mkF m 280 (la17 p0 p1 p2 p3 p4 p5 uw xl r_183 (2 : Int32) pp xx b256) []) _
   refine XS.iload X277.here hx rfl (hb hby at_280) rfl ?_
   show GO p e below T277 (mkF m 282 (la17 p0 p1 p2 p3 p4 p5 uw xl r_183 (2 : Int32) pp xx b256) [(.int 2)]) _
   refine XS.bipush X277.here hx rfl (hb hby at_282) ?_
   show GO p e below T277 (mkF m 284 (la17 p0 p1 p2 p3 p4 p5 uw xl r_183 (2 : Int32) pp xx b256) [(.int 7), (.int 2)]) _
   refine XS.icmpYes X277.here hx rfl (pc0 := 284) (pc' := 310) rfl (hb hby at_284) rfl (flt ((by decide) : ¬ ((7 : Int32) < (2 : Int32)))).2.2.2 (by decide) (by decide) ?_
   show GO p e below T277 (mkF m 310 (la17 p0 p1 p2 p3 p4 p5 uw xl r_183 (2 : Int32) pp xx b256) []) _
   refine XS.iload X277.here hx rfl (hb hby at_310) rfl ?_
   show GO p e below T277 (mkF m 312 (la17 p0 p1 p2 p3 p4 p5 uw xl r_183 (2 : Int32) pp xx b256) [(.int 2)]) _
   refine XS.bipush X277.here hx rfl (hb hby at_312) ?_
   show GO p e below T277 (mkF m 314 (la17 p0 p1 p2 p3 p4 p5 uw xl r_183 (2 : Int32) pp xx b256) [(.int 8), (.int 2)]) _
   refine XS.icmpYes X277.here hx rfl (pc0 := 314) (pc' := 340) rfl (hb hby at_314) rfl (flt ((by decide) : ¬ ((8 : Int32) < (2 : Int32)))).2.2.2 (by decide) (by decide) ?_
   show GO p e below T277 (mkF m 340 (la17 p0 p1 p2 p3 p4 p5 uw xl r_183 (2 : Int32) pp xx b256) []) _
   refine XS.iload X277.here hx rfl (hb hby at_340) rfl ?_
   show GO p e below T277 (mkF m 342 (la17 p0 p1 p2 p3 p4 p5 uw xl r_183 (2 : Int32) pp xx b256) [(.int 2)]) _
   refine XS.bipush X277.here hx rfl (hb hby at_342) ?_
   show GO p e below T277 (mkF m 344 (la17 p0 p1 p2 p3 p4 p5 uw xl r_183 (2 : Int32) pp xx b256) [(.int 9), (.int 2)]) _
   refine XS.icmpYes X277.here hx rfl (pc0 := 344) (pc' := 370) rfl (hb hby at_344) rfl (flt ((by decide) : ¬ ((9 : Int32) < (2 : Int32)))).2.2.2 (by decide) (by decide) ?_
   show GO p e below T277 (mkF m 370 (la17 p0 p1 p2 p3 p4 p5 uw xl r_183 (2 : Int32) pp xx b256) []) _
   refine st280 _ ?_
   show GO p e below T280 (mkF m 373 (la17 p0 p1 p2 p3 p4 p5 uw xl r_183 (2 : Int32) pp xx b256) [(.ref b280)]) _
   refine XS.dup X280.here hx rfl (hb hby at_373) rfl rfl ?_
   show GO p e below T280 (mkF m 374 (la17 p0 p1 p2 p3 p4 p5 uw xl r_183 (2 : Int32) pp xx b256) [(.ref b280), (.ref b280)]) _
   refine XS.aload X280.here hx rfl (hb hby at_374) rfl rfl ?_
   show GO p e below T280 (mkF m 376 (la17 p0 p1 p2 p3 p4 p5 uw xl r_183 (2 : Int32) pp xx b256) [(.ref b256), (.ref b280), (.ref b280)]) _
   refine st287.trans ?_
   show GO p e below T287 (mkF m 379 (la17 p0 p1 p2 p3 p4 p5 uw xl r_183 (2 : Int32) pp xx b256) [(.ref b280)]) _
   refine XS.astore X287.here hx rfl (hb hby at_379) rfl rfl (l' := (la18 p0 p1 p2 p3 p4 p5 uw xl r_183 (2 : Int32) pp xx b256 b280)) rfl ?_
   show GO p e below T287 (mkF m 381 (la18 p0 p1 p2 p3 p4 p5 uw xl r_183 (2 : Int32) pp xx b256 b280) []) _
   refine XS.aload X287.here hx rfl (hb hby at_381) rfl rfl ?_
   show GO p e below T287 (mkF m 383 (la18 p0 p1 p2 p3 p4 p5 uw xl r_183 (2 : Int32) pp xx b256 b280) [(.ref b280)]) _
   refine st291 _ ?_
   show GO p e below T291 (mkF m 386 (la18 p0 p1 p2 p3 p4 p5 uw xl r_183 (2 : Int32) pp xx b256 b280) [(own_pick ([cv_258, cv_269] : List Int32) u0 u1 u2 u3)]) _
   refine XS.aload X291.here hx rfl (hb hby at_386) rfl rfl ?_
   show GO p e below T291 (mkF m 388 (la18 p0 p1 p2 p3 p4 p5 uw xl r_183 (2 : Int32) pp xx b256 b280) [(.ref b280), (own_pick ([cv_258, cv_269] : List Int32) u0 u1 u2 u3)]) _
   refine st295.trans ?_
   show GO p e below T295 (mkF m 391 (la18 p0 p1 p2 p3 p4 p5 uw xl r_183 (2 : Int32) pp xx b256 b280) [(own_pick ([cv_258, cv_269] : List Int32) u0 u1 u2 u3), (own_pick ([cv_258, cv_269] : List Int32) u0 u1 u2 u3)]) _
   refine Jvm.RoadKit.acmp (g := (mkF m 391 (la18 p0 p1 p2 p3 p4 p5 uw xl r_183 (2 : Int32) pp xx b256 b280) [(own_pick ([cv_258, cv_269] : List Int32) u0 u1 u2 u3), (own_pick ([cv_258, cv_269] : List Int32) u0 u1 u2 u3)])) X295 hx rfl (own_pickref _ _ _ _ _) (own_pickref _ _ _ _ _) (pc0 := 391) (pc' := 394) (same := true) rfl (hb hby at_391) rfl (decide_eq_true rfl) (by decide) (by decide) ?_
   show GO p e below T295 (mkF m 394 (la18 p0 p1 p2 p3 p4 p5 uw xl r_183 (2 : Int32) pp xx b256 b280) []) _
   refine XS.iconst X295.here hx rfl (hb hby at_394) ?_
   show GO p e below T295 (mkF m 395 (la18 p0 p1 p2 p3 p4 p5 uw xl r_183 (2 : Int32) pp xx b256 b280) [(.int 1)]) _
   refine XS.goto X295.here hx rfl (pc0 := 395) (pc' := 399) rfl (hb hby at_395) (by decide) (by decide) ?_
   show GO p e below T295 (mkF m 399 (la18 p0 p1 p2 p3 p4 p5 uw xl r_183 (2 : Int32) pp xx b256 b280) [(.int 1)]) _
   exact retN X295 hx (t := .boolean) Bd.returns (by simp) (hb hby at_399) hr
  ·show Qrm0 Z p0 p1 p2 p3 p4 p5 z0 f0 va u0 u1 u2 u3 w0 w1 w2 w3 y0 y1 y2 y3 kV b0 b1 b2 b3 h0 n0 _ T295.heap _
   rw [e295]
   exact ⟨rfl, N295⟩
  ·show CHr Z EL1 s.vm s.heap T295.vm T295.heap
   rw [hh, e295]
   exact CE
 ·obtain ⟨T302, h302, k302, X302, e302, E302, A302, st302⟩ := newP X186 hx hZ183 (wd hw 13 rfl) e186 (g := (mkF m 85 (la16 p0 p1 p2 p3 p4 p5 uw xl r_183 (3 : Int32) pp xx) [(.int 3)])) rfl (hb hby at_85) rfl (by decide) (cap := 3) (by decide) (by decide) (by decide) (by decide)
  obtain ⟨b302, g302⟩ : ∃ z, z = h183.size := ⟨_, rfl⟩
  rw [← g302] at A302 st302
  have C303 : CHr Z EL1 s.vm h0 T183.vm h302 := C184.trans (CHr.ext E302 C184.1)
  have sz302 : h183.size ≤ h302.size := E302.1
  have nz302 := Nat.le_trans nz183 sz302
  have lt302 := ltA A302.lt
  have V302 : Arv Z h302 b302 k302 .char (3 : Int32) [(.int 0), (.int 0), (.int 0)] (.int 0) := (Arv.new A302 (by decide)).pad (pad_rep [] (.int 0) 3)
  -- pc 111: KindNamedPinLaw.at by rm_at
  have f305 : Old Z n0 h302 := ((O0.keep K183 all0).ext E302)
  have f306 : Exa Z h302 r_183 kS0 := (p183_0.ext E302)
  have f307 : Fld Z h302 r_183 kS0 "coder" "B" (.int 0) := (p183_1.ext E302)
  have f308 : Fld Z h302 r_183 kS0 "value" "[B" (.ref t_183) := (p183_2.ext E302)
  have f309 : Arv Z h302 t_183 k_183 .byte N_183 vs_183 (.int 0) := (p183_3.ext E302)
  obtain ⟨_, _, ⟨T304, L304, k304, n304⟩, -, X304, ⟨Lc304, hQ304, l304, y304, z304⟩, st304⟩ := Jvm.LawKit.callS X302 hx (y := (⟨kS1, "at", kS3⟩ : MethodName)) hown183 (mvT hZ183 (wd hw 14 rfl)) (mvT hZ183 (wd hw 15 rfl)) (mvT hZ183 (wd hw 2 rfl)) (mvT hZ183 (wd hw 16 rfl)) (by decide) (backOf (W := 2) (rm_at l Z a0 hw [] (0 : Int32) uw pp xx p3 p4 p5 r_183 t_183 k_183 N_183 vs_183 cs_183 z0 f0 h302 n0 nz302 f305 f306 f307 f308 f309 (by first | assumption | decide | omega) (by first | assumption | decide | omega) (by first | assumption | decide | omega) (by first | assumption | decide | omega) r183_0 r183_1 r183_2 r183_3 (by decide) rxx qxx) hZ183 (wd hw 16 rfl) (wd hw 2 rfl) (by decide) (by decide)) (g := (mkF m 111 (la17 p0 p1 p2 p3 p4 p5 uw xl r_183 (3 : Int32) pp xx b302) [(.int p5), (.int p4), (.int p3), (.int xx), (.int pp), (.int uw), (.ref r_183), (.int 0), (.int 0), (.ref b302)])) rfl (by rw [hml]; rfl) (argsL := [(.int 0), (.ref r_183), (.int uw), (.int pp), (.int xx), (.int p3), (.int p4), (.int p5)]) (rest := [(.int 0), (.ref b302)]) (lenOf pd_9 rfl) rfl (wz rfl) (hb hby at_111) (fun _ _ => ⟨rfl, e302, (by decide : 3 + 0 ≤ _), (by decide : 43 + 0 ≤ _)⟩)
  dsimp only [Pt.U, Pt.locs, Pt.cells, Pt.slots] at X304 l304 y304 z304 st304 hQ304
  rw [l304, y304, z304] at X304
  obtain ⟨cv_304, rfl, N304q, e304, r304_0, r304_1⟩ := hQ304
  have N304 := Fr.app N186 N304q
  obtain ⟨cl310, Ar310, q310, S310, M310, H310, G310⟩ := id V302
  have hin310 : ¬ ((0 : Int32) < 0 ∨ cl310.slots.size ≤ ((0 : Int32)).toNatClampNeg) := inb_of S310 ⟨by decide, by decide⟩
  obtain ⟨T311, h311, X311, e311, W311, st311⟩ := stC X304 hx hZ183 e304 Ar310 (j := (0 : Int32)) hin310 (g := (mkF m 114 (la17 p0 p1 p2 p3 p4 p5 uw xl r_183 (3 : Int32) pp xx b302) [(.int cv_304), (.int 0), (.ref b302)])) rfl rfl (hb hby at_114)
  have ge312 : n0 ≤ b302 := by omega
  have N311 := Fr.snoc X311 N304 ge312
  have ne313 : b302 ≠ r_183 := Ne.symm (Exa.neArv f306 V302 (wd hw 6 rfl))
  have C314 : CHr Z EL1 s.vm h0 T183.vm h311 := C303.trans (CHr.wr W311 (Safe.arv hZ183.alike V302 (by decide)) C303.1)
  have sz311 : h302.size ≤ h311.size := Nat.le_of_eq W311.size.symm
  have nz311 := Nat.le_trans nz302 sz311
  have V311 : Arv Z h311 b302 k302 .char (3 : Int32) [(.int (nar .char cv_304)), (.int 0), (.int 0)] (.int 0) := Arv.set Ar310 q310 S310 M310 H310 G310 (fits_nar_char _) W311 0 rfl (Nat.le_of_ble_eq_true rfl)
  -- pc 138: KindNamedPinLaw.at by rm_at
  have f316 : Old Z n0 h311 := (f305.wr W311 ge312)
  have f317 : Exa Z h311 r_183 kS0 := (f306.wr W311)
  have f318 : Fld Z h311 r_183 kS0 "coder" "B" (.int 0) := (f307.other W311 (Or.inl (Ne.symm ne313)))
  have f319 : Fld Z h311 r_183 kS0 "value" "[B" (.ref t_183) := (f308.other W311 (Or.inl (Ne.symm ne313)))
  have ne320 : t_183 ≠ b302 := neN (by omega)
  have f321 : Arv Z h311 t_183 k_183 .byte N_183 vs_183 (.int 0) := (f309.other W311 ne320)
  obtain ⟨_, _, ⟨T315, L315, k315, n315⟩, -, X315, ⟨Lc315, hQ315, l315, y315, z315⟩, st315⟩ := Jvm.LawKit.callS X311 hx (y := (⟨kS1, "at", kS3⟩ : MethodName)) hown183 (mvT hZ183 (wd hw 14 rfl)) (mvT hZ183 (wd hw 15 rfl)) (mvT hZ183 (wd hw 2 rfl)) (mvT hZ183 (wd hw 16 rfl)) (by decide) (backOf (W := 2) (rm_at l Z a0 hw [] (1 : Int32) uw pp xx p3 p4 p5 r_183 t_183 k_183 N_183 vs_183 cs_183 z0 f0 h311 n0 nz311 f316 f317 f318 f319 f321 (by first | assumption | decide | omega) (by first | assumption | decide | omega) (by first | assumption | decide | omega) (by first | assumption | decide | omega) r183_0 r183_1 r183_2 r183_3 (by decide) rxx qxx) hZ183 (wd hw 16 rfl) (wd hw 2 rfl) (by decide) (by decide)) (g := (mkF m 138 (la17 p0 p1 p2 p3 p4 p5 uw xl r_183 (3 : Int32) pp xx b302) [(.int p5), (.int p4), (.int p3), (.int xx), (.int pp), (.int uw), (.ref r_183), (.int 1), (.int 1), (.ref b302)])) rfl (by rw [hml]; rfl) (argsL := [(.int 1), (.ref r_183), (.int uw), (.int pp), (.int xx), (.int p3), (.int p4), (.int p5)]) (rest := [(.int 1), (.ref b302)]) (lenOf pd_9 rfl) rfl (wz rfl) (hb hby at_138) (fun _ _ => ⟨rfl, e311, (by decide : 3 + 0 ≤ _), (by decide : 43 + 0 ≤ _)⟩)
  dsimp only [Pt.U, Pt.locs, Pt.cells, Pt.slots] at X315 l315 y315 z315 st315 hQ315
  rw [l315, y315, z315] at X315
  obtain ⟨cv_315, rfl, N315q, e315, r315_0, r315_1⟩ := hQ315
  have N315 := Fr.app N311 N315q
  obtain ⟨cl322, Ar322, q322, S322, M322, H322, G322⟩ := id V311
  have hin322 : ¬ ((1 : Int32) < 0 ∨ cl322.slots.size ≤ ((1 : Int32)).toNatClampNeg) := inb_of S322 ⟨by decide, by decide⟩
  obtain ⟨T323, h323, X323, e323, W323, st323⟩ := stC X315 hx hZ183 e315 Ar322 (j := (1 : Int32)) hin322 (g := (mkF m 141 (la17 p0 p1 p2 p3 p4 p5 uw xl r_183 (3 : Int32) pp xx b302) [(.int cv_315), (.int 1), (.ref b302)])) rfl rfl (hb hby at_141)
  have N323 := Fr.snoc X323 N315 ge312
  have C324 : CHr Z EL1 s.vm h0 T183.vm h323 := C314.trans (CHr.wr W323 (Safe.arv hZ183.alike V311 (by decide)) C314.1)
  have sz323 : h311.size ≤ h323.size := Nat.le_of_eq W323.size.symm
  have nz323 := Nat.le_trans nz311 sz323
  have V323 : Arv Z h323 b302 k302 .char (3 : Int32) [(.int (nar .char cv_304)), (.int (nar .char cv_315)), (.int 0)] (.int 0) := Arv.set Ar322 q322 S322 M322 H322 G322 (fits_nar_char _) W323 1 rfl (Nat.le_of_ble_eq_true rfl)
  -- pc 165: KindNamedPinLaw.at by rm_at
  have f326 : Old Z n0 h323 := (f316.wr W323 ge312)
  have f327 : Exa Z h323 r_183 kS0 := (f317.wr W323)
  have f328 : Fld Z h323 r_183 kS0 "coder" "B" (.int 0) := (f318.other W323 (Or.inl (Ne.symm ne313)))
  have f329 : Fld Z h323 r_183 kS0 "value" "[B" (.ref t_183) := (f319.other W323 (Or.inl (Ne.symm ne313)))
  have f330 : Arv Z h323 t_183 k_183 .byte N_183 vs_183 (.int 0) := (f321.other W323 ne320)
  obtain ⟨_, _, ⟨T325, L325, k325, n325⟩, -, X325, ⟨Lc325, hQ325, l325, y325, z325⟩, st325⟩ := Jvm.LawKit.callS X323 hx (y := (⟨kS1, "at", kS3⟩ : MethodName)) hown183 (mvT hZ183 (wd hw 14 rfl)) (mvT hZ183 (wd hw 15 rfl)) (mvT hZ183 (wd hw 2 rfl)) (mvT hZ183 (wd hw 16 rfl)) (by decide) (backOf (W := 2) (rm_at l Z a0 hw [] (2 : Int32) uw pp xx p3 p4 p5 r_183 t_183 k_183 N_183 vs_183 cs_183 z0 f0 h323 n0 nz323 f326 f327 f328 f329 f330 (by first | assumption | decide | omega) (by first | assumption | decide | omega) (by first | assumption | decide | omega) (by first | assumption | decide | omega) r183_0 r183_1 r183_2 r183_3 (by decide) rxx qxx) hZ183 (wd hw 16 rfl) (wd hw 2 rfl) (by decide) (by decide)) (g := (mkF m 165 (la17 p0 p1 p2 p3 p4 p5 uw xl r_183 (3 : Int32) pp xx b302) [(.int p5), (.int p4), (.int p3), (.int xx), (.int pp), (.int uw), (.ref r_183), (.int 2), (.int 2), (.ref b302)])) rfl (by rw [hml]; rfl) (argsL := [(.int 2), (.ref r_183), (.int uw), (.int pp), (.int xx), (.int p3), (.int p4), (.int p5)]) (rest := [(.int 2), (.ref b302)]) (lenOf pd_9 rfl) rfl (wz rfl) (hb hby at_165) (fun _ _ => ⟨rfl, e323, (by decide : 3 + 0 ≤ _), (by decide : 43 + 0 ≤ _)⟩)
  dsimp only [Pt.U, Pt.locs, Pt.cells, Pt.slots] at X325 l325 y325 z325 st325 hQ325
  rw [l325, y325, z325] at X325
  obtain ⟨cv_325, rfl, N325q, e325, r325_0, r325_1⟩ := hQ325
  have N325 := Fr.app N323 N325q
  obtain ⟨cl331, Ar331, q331, S331, M331, H331, G331⟩ := id V323
  have hin331 : ¬ ((2 : Int32) < 0 ∨ cl331.slots.size ≤ ((2 : Int32)).toNatClampNeg) := inb_of S331 ⟨by decide, by decide⟩
  obtain ⟨T332, h332, X332, e332, W332, st332⟩ := stC X325 hx hZ183 e325 Ar331 (j := (2 : Int32)) hin331 (g := (mkF m 168 (la17 p0 p1 p2 p3 p4 p5 uw xl r_183 (3 : Int32) pp xx b302) [(.int cv_325), (.int 2), (.ref b302)])) rfl rfl (hb hby at_168)
  have N332 := Fr.snoc X332 N325 ge312
  have C333 : CHr Z EL1 s.vm h0 T183.vm h332 := C324.trans (CHr.wr W332 (Safe.arv hZ183.alike V323 (by decide)) C324.1)
  have sz332 : h323.size ≤ h332.size := Nat.le_of_eq W332.size.symm
  have nz332 := Nat.le_trans nz323 sz332
  have V332 : Arv Z h332 b302 k302 .char (3 : Int32) [(.int (nar .char cv_304)), (.int (nar .char cv_315)), (.int (nar .char cv_325))] (.int 0) := Arv.set Ar331 q331 S331 M331 H331 G331 (fits_nar_char _) W332 2 rfl (Nat.le_of_ble_eq_true rfl)
  have V334 : Arv Z h332 b302 k302 .char (3 : Int32) [(.int cv_304), (.int cv_315), (.int cv_325)] (.int 0) := by
   have q := V332
   rw [r304_1, r315_1, r325_1] at q
   exact q
  obtain ⟨T335, h335, X335, e335, E335, A335, D335, U335, st335⟩ := newO X332 hx hZ183 hown183 (wd hw 20 rfl) (wd hw 6 rfl) (wd hw 5 rfl) e332 (g := (mkF m 370 (la17 p0 p1 p2 p3 p4 p5 uw xl r_183 (3 : Int32) pp xx b302) [])) rfl (hb hby at_370) (by decide) (by decide)
  obtain ⟨b335, g335⟩ : ∃ z, z = h332.size := ⟨_, rfl⟩
  rw [← g335] at A335 D335 U335 st335
  have C336 : CHr Z EL1 s.vm h0 T183.vm h335 := C333.trans (CHr.ext E335 C333.1)
  have sz335 : h332.size ≤ h335.size := E335.1
  have nz335 := Nat.le_trans nz332 sz335
  have lt335 := ltA A335.lt
  have B335 : Safe Z EL1 T183.vm h335 b335 := Safe.ext E335 C333.1 (Safe.new (by omega))
  have f337 : Fld Z h335 b335 kS0 "value" "[B" .null := D335 (Or.inr (wd hw 8 rfl)) (ty := (.array .byte)) (by decide)
  have f338 : Fld Z h335 b335 kS0 "coder" "B" (.int 0) := D335 (Or.inr (wd hw 9 rfl)) (ty := .byte) (by decide)
  have f339 : Arv Z h335 b302 k302 .char (3 : Int32) [(.int cv_304), (.int cv_315), (.int cv_325)] (.int 0) := (V334.ext E335)
  have f340 : Old Z n0 h335 := ((f326.wr W332 ge312).ext E335)
  have S341 : Sta Z h335 kS0 "COMPACT_STRINGS" "Z" (.int z0) := SZc.ext f340.2
  obtain ⟨v342, _, ⟨T342, L342, k342, n342⟩, -, X342, ⟨Lc342, hQ342, l342, y342, z342⟩, st342⟩ := X335.specialBack hx (y := (⟨kS0, "<init>", "([C)V"⟩ : MethodName)) rfl hown183 (mvT hZ183 (wd hw 21 rfl)) (mvT hZ183 (wd hw 22 rfl)) (mvT hZ183 (wd hw 23 rfl)) (by decide) (StrChars.Road.backV (W := 1) hZ183 (own_hws hw) (kI := 4) (wd hw 6 rfl) (cs := ([cv_304, cv_315, cv_325] : List Int32)) (bs := ([cv_304, cv_315, cv_325] : List Int32).map (fun c => c.toInt8.toInt32)) (n := 3) (n0 := n0) (by omega) (by omega) A335 f337 f338 f339 S341 hz0 rfl rfl (by decide) (by decide) (own_allS r304_0 (own_allS r315_0 (own_allS r325_0 own_all0))) rfl (by decide) (by decide)) (g := (mkF m 376 (la17 p0 p1 p2 p3 p4 p5 uw xl r_183 (3 : Int32) pp xx b302) [(.ref b302), (.ref b335), (.ref b335)])) rfl (by rw [hml]; rfl) (Steps.refl _) (a := b335) (argsL := [(.ref b302)]) (rest := [(.ref b335)]) (lenOf pd_7 rfl) rfl (wz rfl) (hb hby at_376) (fun _ _ => ⟨rfl, e335, (by decide : 4 + 1 ≤ _), (by decide : 47 + 3 ≤ _)⟩)
  dsimp only [Pt.U, Pt.locs, Pt.cells, Pt.slots] at X342 l342 y342 z342 st342 hQ342
  rw [l342, y342, z342] at X342
  obtain ⟨h342, e342⟩ : ∃ z, T342.heap = z := ⟨_, rfl⟩
  rw [e342] at hQ342
  obtain ⟨rfl, N342q, K342, A342, Fc342, t342, kb342, u342, lo342, nt342, Fv342, V342⟩ := hQ342
  have N342 := Fr.app N332 N342q
  have f343 : Arv Z h335 t_183 k_183 .byte N_183 vs_183 (.int 0) := ((f330.other W332 ne320).ext E335)
  have ne344 : b335 ≠ t_183 := Exa.neArv A335 f343 (wd hw 6 rfl)
  have C345 : CHr Z EL1 s.vm h0 T183.vm h342 := C336.trans (CHr.keep K342 (sfS B335 sf0) C336.1)
  have sz342 : h335.size ≤ h342.size := K342.1
  have nz342 := Nat.le_trans nz335 sz342
  have lt342 := ltA V342.lt
  have hcd342 : StrChars.Road.CodA ([cv_304, cv_315, cv_325] : List Int32) 0 (3 : Int32) ((([cv_304, cv_315, cv_325] : List Int32).map (fun c => c.toInt8.toInt32)).map Value.int) := own_codn rfl (fun c hc => ((own_allS r304_0 (own_allS r315_0 (own_allS r325_0 own_all0))) c hc).2)
  -- pc 383: Kind.named by rm_named
  have ge347 : n0 ≤ b335 := by omega
  have f348 : Old Z n0 h342 := (f340.keep K342 (allS ge347 all0))
  obtain ⟨_, _, ⟨T346, L346, k346, n346⟩, -, X346, ⟨Lc346, hQ346, l346, y346, z346⟩, st346⟩ := Jvm.LawKit.callS X342 hx (y := (⟨"com/example/rolegrant/rolegrant/policy/Kind", "named", kS2⟩ : MethodName)) hown183 (mvT hZ183 (wd hw 44 rfl)) (mvT hZ183 (wd hw 45 rfl)) (mvT hZ183 (wd hw 46 rfl)) (mvT hZ183 (wd hw 47 rfl)) (by decide) (backOf (W := 0) (rm_named l Z a0 hw [] b335 t342 kb342 (3 : Int32) ((([cv_304, cv_315, cv_325] : List Int32).map (fun c => c.toInt8.toInt32)).map Value.int) ([cv_304, cv_315, cv_325] : List Int32) z0 va u0 u1 u2 u3 w0 w1 w2 w3 y0 y1 y2 y3 kV b0 b1 b2 b3 h342 n0 nz342 f348 A342 Fc342 Fv342 V342 (by first | assumption | decide | omega) (by first | assumption | decide | omega) hcd342 (own_up (own_allS r304_0 (own_allS r315_0 (own_allS r325_0 own_all0)))) (Nat.le_of_ble_eq_true rfl) (by first | assumption | decide | omega)) hZ183 (wd hw 47 rfl) (wd hw 46 rfl) (by decide) (by decide)) (g := (mkF m 383 (la18 p0 p1 p2 p3 p4 p5 uw xl r_183 (3 : Int32) pp xx b302 b335) [(.ref b335)])) rfl (by rw [hml]; rfl) (argsL := [(.ref b335)]) (rest := []) (lenOf pd_8 rfl) rfl (wz rfl) (hb hby at_383) (fun _ _ => ⟨rfl, e342, (by decide : 5 + 1 ≤ _), (by decide : 50 + 4 ≤ _)⟩)
  dsimp only [Pt.U, Pt.locs, Pt.cells, Pt.slots] at X346 l346 y346 z346 st346 hQ346
  rw [l346, y346, z346] at X346
  obtain ⟨h346, e346⟩ : ∃ z, T346.heap = z := ⟨_, rfl⟩
  rw [e346] at hQ346
  obtain ⟨rfl, N346q, K346⟩ := hQ346
  have N346 := Fr.app N342 N346q
  have C349 : CHr Z EL1 s.vm h0 T183.vm h346 := C345.trans (CHr.keep K346 sf0 C345.1)
  have sz346 : h342.size ≤ h346.size := K346.1
  have nz346 := Nat.le_trans nz342 sz346
  -- pc 388: KindNamedPinLaw.expected by rm_exp
  have f351 : Old Z n0 h346 := (f348.keep K346 all0)
  have f352 : Exa Z h346 b335 kS0 := (A342.keep K346)
  have f353 : Fld Z h346 b335 kS0 "coder" "B" (.int 0) := (Fc342.keep K346 nin0)
  have f354 : Fld Z h346 b335 kS0 "value" "[B" (.ref t342) := (Fv342.keep K346 nin0)
  have f355 : Arv Z h346 t342 kb342 .byte (3 : Int32) ((([cv_304, cv_315, cv_325] : List Int32).map (fun c => c.toInt8.toInt32)).map Value.int) (.int 0) := (V342.keep K346 nin0)
  obtain ⟨_, _, ⟨T350, L350, k350, n350⟩, -, X350w, hS350w, gr350, ⟨Lc350, hQ350, l350, y350, z350, C350w⟩, st350⟩ := callSS X346 hx (y := (⟨kS1, "expected", kS2⟩ : MethodName)) hown183 (mvT hZ183 (wd hw 79 rfl)) (mvT hZ183 (wd hw 80 rfl)) (mvT hZ183 (wd hw 2 rfl)) (mvT hZ183 (wd hw 81 rfl)) (by decide) (own_backS (W := 1) (rm_exp l Z a0 hw [] b335 t342 kb342 (3 : Int32) ((([cv_304, cv_315, cv_325] : List Int32).map (fun c => c.toInt8.toInt32)).map Value.int) ([cv_304, cv_315, cv_325] : List Int32) z0 va u0 u1 u2 u3 w0 w1 w2 w3 y0 y1 y2 y3 kV b0 b1 b2 b3 h346 n0 nz346 f351 f352 f353 f354 f355 (by first | assumption | decide | omega) (by first | assumption | decide | omega) hcd342 (own_up (own_allS r304_0 (own_allS r315_0 (own_allS r325_0 own_all0)))) (Nat.le_of_ble_eq_true rfl) (by first | assumption | decide | omega)) hZ183 (wd hw 81 rfl) (wd hw 2 rfl) (by decide) (by decide) (own_EW hw) C349.1 sf0 all0) (g := (mkF m 388 (la18 p0 p1 p2 p3 p4 p5 uw xl r_183 (3 : Int32) pp xx b302 b335) [(.ref b335), (own_pick ([cv_304, cv_315, cv_325] : List Int32) u0 u1 u2 u3)])) rfl (by rw [hml]; rfl) (argsL := [(.ref b335)]) (rest := [(own_pick ([cv_304, cv_315, cv_325] : List Int32) u0 u1 u2 u3)]) (lenOf pd_8 rfl) rfl (own_wx _ _ _ _ _) (hb hby at_388) (fun _ _ => ⟨rfl, e346, (by decide : 6 + 8 ≤ _), (by decide : 54 + 104 ≤ _)⟩)
  dsimp only [Pt.U, Pt.locs, Pt.cells, Pt.slots] at X350w hS350w gr350 l350 y350 z350 st350 hQ350 C350w
  rw [l350, y350, z350] at X350w
  obtain ⟨X350, hS350, hZ350, hown350⟩ := rebS hS183 (by rw [e346]; omega) X350w hS350w gr350 hZ183 hown183
  obtain ⟨h350, e350⟩ : ∃ z, T350.heap = z := ⟨_, rfl⟩
  rw [e350] at hQ350
  obtain ⟨rfl, N350q, K350⟩ := hQ350
  have N350 := Fr.app N346 N350q
  rw [e350] at C350w hS350
  have hk350 : h350.size ≤ h350.size := Nat.le_refl _
  have C356 : CHr Z EL1 s.vm h0 T350.vm h350 := C349.trans (C350w)
  have sz350 : h346.size ≤ h350.size := K350.1
  have nz350 := Nat.le_trans nz346 sz350
  obtain ⟨fs, hr, hrun, hended, hE⟩ := X350.leaveW hS350 (by rw [e350]; omega) (v := some (.int 1)) (fun h => by rw [Bd.returns] at h; cases h)
  have CE := C356.trans (CHv.at X350 hZ350 (own_EW hw) C356.1)
  refine ⟨_, _, pre196 _ ?_, hrun, hended, _, _, rfl, ?_, ?_, ⟨hE.1, hE.2.1, hE.2.2.1, hE.2.2.2.mono (by decide) (by decide)⟩⟩
  ·show GO p e below T186 (mkF m 83 (la16 p0 p1 p2 p3 p4 p5 uw xl r_183 (3 : Int32) pp xx) []) _
   refine XS.iload X186.here hx rfl (hb hby at_83) rfl ?_
   show GO p e below T186 (mkF m 85 (la16 p0 p1 p2 p3 p4 p5 uw xl r_183 (3 : Int32) pp xx) [(.int 3)]) _
   refine st302 _ ?_
   show GO p e below T302 (mkF m 87 (la16 p0 p1 p2 p3 p4 p5 uw xl r_183 (3 : Int32) pp xx) [(.ref b302)]) _
   refine XS.astore X302.here hx rfl (hb hby at_87) rfl rfl (l' := (la17 p0 p1 p2 p3 p4 p5 uw xl r_183 (3 : Int32) pp xx b302)) rfl ?_
   show GO p e below T302 (mkF m 89 (la17 p0 p1 p2 p3 p4 p5 uw xl r_183 (3 : Int32) pp xx b302) []) _
   refine XS.iload X302.here hx rfl (hb hby at_89) rfl ?_
   show GO p e below T302 (mkF m 91 (la17 p0 p1 p2 p3 p4 p5 uw xl r_183 (3 : Int32) pp xx b302) [(.int 3)]) _
   refine XS.ifNo X302.here hx rfl (hb hby at_91) rfl ((if0 _ _).trans (tlt ((by decide) : (0 : Int32) < (3 : Int32))).2.2.2) ?_
   show GO p e below T302 (mkF m 94 (la17 p0 p1 p2 p3 p4 p5 uw xl r_183 (3 : Int32) pp xx b302) []) _
   refine XS.aload X302.here hx rfl (hb hby at_94) rfl rfl ?_
   show GO p e below T302 (mkF m 96 (la17 p0 p1 p2 p3 p4 p5 uw xl r_183 (3 : Int32) pp xx b302) [(.ref b302)]) _
   refine XS.iconst X302.here hx rfl (hb hby at_96) ?_
   show GO p e below T302 (mkF m 97 (la17 p0 p1 p2 p3 p4 p5 uw xl r_183 (3 : Int32) pp xx b302) [(.int 0), (.ref b302)]) _
   refine XS.iconst X302.here hx rfl (hb hby at_97) ?_
   show GO p e below T302 (mkF m 98 (la17 p0 p1 p2 p3 p4 p5 uw xl r_183 (3 : Int32) pp xx b302) [(.int 0), (.int 0), (.ref b302)]) _
   refine XS.aload X302.here hx rfl (hb hby at_98) rfl rfl ?_
   show GO p e below T302 (mkF m 100 (la17 p0 p1 p2 p3 p4 p5 uw xl r_183 (3 : Int32) pp xx b302) [(.ref r_183), (.int 0), (.int 0), (.ref b302)]) _
   refine XS.iload X302.here hx rfl (hb hby at_100) rfl ?_
   show GO p e below T302 (mkF m 102 (la17 p0 p1 p2 p3 p4 p5 uw xl r_183 (3 : Int32) pp xx b302) [(.int uw), (.ref r_183), (.int 0), (.int 0), (.ref b302)]) _
   refine XS.iload X302.here hx rfl (hb hby at_102) rfl ?_
   show GO p e below T302 (mkF m 104 (la17 p0 p1 p2 p3 p4 p5 uw xl r_183 (3 : Int32) pp xx b302) [(.int pp), (.int uw), (.ref r_183), (.int 0), (.int 0), (.ref b302)]) _
   refine XS.iload X302.here hx rfl (hb hby at_104) rfl ?_
   show GO p e below T302 (mkF m 106 (la17 p0 p1 p2 p3 p4 p5 uw xl r_183 (3 : Int32) pp xx b302) [(.int xx), (.int pp), (.int uw), (.ref r_183), (.int 0), (.int 0), (.ref b302)]) _
   refine XS.iloadN X302.here hx rfl (hb hby at_106) rfl ?_
   show GO p e below T302 (mkF m 107 (la17 p0 p1 p2 p3 p4 p5 uw xl r_183 (3 : Int32) pp xx b302) [(.int p3), (.int xx), (.int pp), (.int uw), (.ref r_183), (.int 0), (.int 0), (.ref b302)]) _
   refine XS.iload X302.here hx rfl (hb hby at_107) rfl ?_
   show GO p e below T302 (mkF m 109 (la17 p0 p1 p2 p3 p4 p5 uw xl r_183 (3 : Int32) pp xx b302) [(.int p4), (.int p3), (.int xx), (.int pp), (.int uw), (.ref r_183), (.int 0), (.int 0), (.ref b302)]) _
   refine XS.iload X302.here hx rfl (hb hby at_109) rfl ?_
   show GO p e below T302 (mkF m 111 (la17 p0 p1 p2 p3 p4 p5 uw xl r_183 (3 : Int32) pp xx b302) [(.int p5), (.int p4), (.int p3), (.int xx), (.int pp), (.int uw), (.ref r_183), (.int 0), (.int 0), (.ref b302)]) _
   refine st304 _ ?_
   show GO p e below T304 (mkF m 114 (la17 p0 p1 p2 p3 p4 p5 uw xl r_183 (3 : Int32) pp xx b302) [(.int cv_304), (.int 0), (.ref b302)]) _
   refine st311 _ ?_
   show GO p e below T311 (mkF m 115 (la17 p0 p1 p2 p3 p4 p5 uw xl r_183 (3 : Int32) pp xx b302) []) _
   refine XS.iload X311.here hx rfl (hb hby at_115) rfl ?_
   show GO p e below T311 (mkF m 117 (la17 p0 p1 p2 p3 p4 p5 uw xl r_183 (3 : Int32) pp xx b302) [(.int 3)]) _
   refine XS.iconst X311.here hx rfl (hb hby at_117) ?_
   show GO p e below T311 (mkF m 118 (la17 p0 p1 p2 p3 p4 p5 uw xl r_183 (3 : Int32) pp xx b302) [(.int 1), (.int 3)]) _
   refine XS.icmpNo X311.here hx rfl (hb hby at_118) rfl (tlt ((by decide) : (1 : Int32) < (3 : Int32))).2.2.2 ?_
   show GO p e below T311 (mkF m 121 (la17 p0 p1 p2 p3 p4 p5 uw xl r_183 (3 : Int32) pp xx b302) []) _
   refine XS.aload X311.here hx rfl (hb hby at_121) rfl rfl ?_
   show GO p e below T311 (mkF m 123 (la17 p0 p1 p2 p3 p4 p5 uw xl r_183 (3 : Int32) pp xx b302) [(.ref b302)]) _
   refine XS.iconst X311.here hx rfl (hb hby at_123) ?_
   show GO p e below T311 (mkF m 124 (la17 p0 p1 p2 p3 p4 p5 uw xl r_183 (3 : Int32) pp xx b302) [(.int 1), (.ref b302)]) _
   refine XS.iconst X311.here hx rfl (hb hby at_124) ?_
   show GO p e below T311 (mkF m 125 (la17 p0 p1 p2 p3 p4 p5 uw xl r_183 (3 : Int32) pp xx b302) [(.int 1), (.int 1), (.ref b302)]) _
   refine XS.aload X311.here hx rfl (hb hby at_125) rfl rfl ?_
   show GO p e below T311 (mkF m 127 (la17 p0 p1 p2 p3 p4 p5 uw xl r_183 (3 : Int32) pp xx b302) [(.ref r_183), (.int 1), (.int 1), (.ref b302)]) _
   refine XS.iload X311.here hx rfl (hb hby at_127) rfl ?_
   show GO p e below T311 (mkF m 129 (la17 p0 p1 p2 p3 p4 p5 uw xl r_183 (3 : Int32) pp xx b302) [(.int uw), (.ref r_183), (.int 1), (.int 1), (.ref b302)]) _
   refine XS.iload X311.here hx rfl (hb hby at_129) rfl ?_
   show GO p e below T311 (mkF m 131 (la17 p0 p1 p2 p3 p4 p5 uw xl r_183 (3 : Int32) pp xx b302) [(.int pp), (.int uw), (.ref r_183), (.int 1), (.int 1), (.ref b302)]) _
   refine XS.iload X311.here hx rfl (hb hby at_131) rfl ?_
   show GO p e below T311 (mkF m 133 (la17 p0 p1 p2 p3 p4 p5 uw xl r_183 (3 : Int32) pp xx b302) [(.int xx), (.int pp), (.int uw), (.ref r_183), (.int 1), (.int 1), (.ref b302)]) _
   refine XS.iloadN X311.here hx rfl (hb hby at_133) rfl ?_
   show GO p e below T311 (mkF m 134 (la17 p0 p1 p2 p3 p4 p5 uw xl r_183 (3 : Int32) pp xx b302) [(.int p3), (.int xx), (.int pp), (.int uw), (.ref r_183), (.int 1), (.int 1), (.ref b302)]) _
   refine XS.iload X311.here hx rfl (hb hby at_134) rfl ?_
   show GO p e below T311 (mkF m 136 (la17 p0 p1 p2 p3 p4 p5 uw xl r_183 (3 : Int32) pp xx b302) [(.int p4), (.int p3), (.int xx), (.int pp), (.int uw), (.ref r_183), (.int 1), (.int 1), (.ref b302)]) _
   refine XS.iload X311.here hx rfl (hb hby at_136) rfl ?_
   show GO p e below T311 (mkF m 138 (la17 p0 p1 p2 p3 p4 p5 uw xl r_183 (3 : Int32) pp xx b302) [(.int p5), (.int p4), (.int p3), (.int xx), (.int pp), (.int uw), (.ref r_183), (.int 1), (.int 1), (.ref b302)]) _
   refine st315 _ ?_
   show GO p e below T315 (mkF m 141 (la17 p0 p1 p2 p3 p4 p5 uw xl r_183 (3 : Int32) pp xx b302) [(.int cv_315), (.int 1), (.ref b302)]) _
   refine st323 _ ?_
   show GO p e below T323 (mkF m 142 (la17 p0 p1 p2 p3 p4 p5 uw xl r_183 (3 : Int32) pp xx b302) []) _
   refine XS.iload X323.here hx rfl (hb hby at_142) rfl ?_
   show GO p e below T323 (mkF m 144 (la17 p0 p1 p2 p3 p4 p5 uw xl r_183 (3 : Int32) pp xx b302) [(.int 3)]) _
   refine XS.iconst X323.here hx rfl (hb hby at_144) ?_
   show GO p e below T323 (mkF m 145 (la17 p0 p1 p2 p3 p4 p5 uw xl r_183 (3 : Int32) pp xx b302) [(.int 2), (.int 3)]) _
   refine XS.icmpNo X323.here hx rfl (hb hby at_145) rfl (tlt ((by decide) : (2 : Int32) < (3 : Int32))).2.2.2 ?_
   show GO p e below T323 (mkF m 148 (la17 p0 p1 p2 p3 p4 p5 uw xl r_183 (3 : Int32) pp xx b302) []) _
   refine XS.aload X323.here hx rfl (hb hby at_148) rfl rfl ?_
   show GO p e below T323 (mkF m 150 (la17 p0 p1 p2 p3 p4 p5 uw xl r_183 (3 : Int32) pp xx b302) [(.ref b302)]) _
   refine XS.iconst X323.here hx rfl (hb hby at_150) ?_
   show GO p e below T323 (mkF m 151 (la17 p0 p1 p2 p3 p4 p5 uw xl r_183 (3 : Int32) pp xx b302) [(.int 2), (.ref b302)]) _
   refine XS.iconst X323.here hx rfl (hb hby at_151) ?_
   show GO p e below T323 (mkF m 152 (la17 p0 p1 p2 p3 p4 p5 uw xl r_183 (3 : Int32) pp xx b302) [(.int 2), (.int 2), (.ref b302)]) _
   refine XS.aload X323.here hx rfl (hb hby at_152) rfl rfl ?_
   show GO p e below T323 (mkF m 154 (la17 p0 p1 p2 p3 p4 p5 uw xl r_183 (3 : Int32) pp xx b302) [(.ref r_183), (.int 2), (.int 2), (.ref b302)]) _
   refine XS.iload X323.here hx rfl (hb hby at_154) rfl ?_
   show GO p e below T323 (mkF m 156 (la17 p0 p1 p2 p3 p4 p5 uw xl r_183 (3 : Int32) pp xx b302) [(.int uw), (.ref r_183), (.int 2), (.int 2), (.ref b302)]) _
   refine XS.iload X323.here hx rfl (hb hby at_156) rfl ?_
   show GO p e below T323 (mkF m 158 (la17 p0 p1 p2 p3 p4 p5 uw xl r_183 (3 : Int32) pp xx b302) [(.int pp), (.int uw), (.ref r_183), (.int 2), (.int 2), (.ref b302)]) _
   refine XS.iload X323.here hx rfl (hb hby at_158) rfl ?_
   show GO p e below T323 (mkF m 160 (la17 p0 p1 p2 p3 p4 p5 uw xl r_183 (3 : Int32) pp xx b302) [(.int xx), (.int pp), (.int uw), (.ref r_183), (.int 2), (.int 2), (.ref b302)]) _
   refine XS.iloadN X323.here hx rfl (hb hby at_160) rfl ?_
   show GO p e below T323 (mkF m 161 (la17 p0 p1 p2 p3 p4 p5 uw xl r_183 (3 : Int32) pp xx b302) [(.int p3), (.int xx), (.int pp), (.int uw), (.ref r_183), (.int 2), (.int 2), (.ref b302)]) _
   refine XS.iload X323.here hx rfl (hb hby at_161) rfl ?_
   show GO p e below T323 (mkF m 163 (la17 p0 p1 p2 p3 p4 p5 uw xl r_183 (3 : Int32) pp xx b302) [(.int p4), (.int p3), (.int xx), (.int pp), (.int uw), (.ref r_183), (.int 2), (.int 2), (.ref b302)]) _
   refine XS.iload X323.here hx rfl (hb hby at_163) rfl ?_
   show GO p e below T323 (mkF m 165 (la17 p0 p1 p2 p3 p4 p5 uw xl r_183 (3 : Int32) pp xx b302) [(.int p5), (.int p4), (.int p3), (.int xx), (.int pp), (.int uw), (.ref r_183), (.int 2), (.int 2), (.ref b302)]) _
   refine st325 _ ?_
   show GO p e below T325 (mkF m 168 (la17 p0 p1 p2 p3 p4 p5 uw xl r_183 (3 : Int32) pp xx b302) [(.int cv_325), (.int 2), (.ref b302)]) _
   refine st332 _ ?_
   show GO p e below T332 (mkF m 169 (la17 p0 p1 p2 p3 p4 p5 uw xl r_183 (3 : Int32) pp xx b302) []) _
   refine XS.iload X332.here hx rfl (hb hby at_169) rfl ?_
   show GO p e below T332 (mkF m 171 (la17 p0 p1 p2 p3 p4 p5 uw xl r_183 (3 : Int32) pp xx b302) [(.int 3)]) _
   refine XS.iconst X332.here hx rfl (hb hby at_171) ?_
   show GO p e below T332 (mkF m 172 (la17 p0 p1 p2 p3 p4 p5 uw xl r_183 (3 : Int32) pp xx b302) [(.int 3), (.int 3)]) _
   refine XS.icmpYes X332.here hx rfl (pc0 := 172) (pc' := 196) rfl (hb hby at_172) rfl (flt ((by decide) : ¬ ((3 : Int32) < (3 : Int32)))).2.2.2 (by decide) (by decide) ?_
   show GO p e below T332 (mkF m 196 (la17 p0 p1 p2 p3 p4 p5 uw xl r_183 (3 : Int32) pp xx b302) []) _
   refine XS.iload X332.here hx rfl (hb hby at_196) rfl ?_
   show GO p e below T332 (mkF m 198 (la17 p0 p1 p2 p3 p4 p5 uw xl r_183 (3 : Int32) pp xx b302) [(.int 3)]) _
   refine XS.iconst X332.here hx rfl (hb hby at_198) ?_
   show GO p e below T332 (mkF m 199 (la17 p0 p1 p2 p3 p4 p5 uw xl r_183 (3 : Int32) pp xx b302) [(.int 4), (.int 3)]) _
   refine XS.icmpYes X332.here hx rfl (pc0 := 199) (pc' := 223) rfl (hb hby at_199) rfl (flt ((by decide) : ¬ ((4 : Int32) < (3 : Int32)))).2.2.2 (by decide) (by decide) ?_
   show GO p e below T332 (mkF m 223 (la17 p0 p1 p2 p3 p4 p5 uw xl r_183 (3 : Int32) pp xx b302) []) _
   refine XS.iload X332.here hx rfl (hb hby at_223) rfl ?_
   show GO p e below T332 (mkF m 225 (la17 p0 p1 p2 p3 p4 p5 uw xl r_183 (3 : Int32) pp xx b302) [(.int 3)]) _
   refine XS.iconst X332.here hx rfl (hb hby at_225) ?_
   show GO p e below T332 (mkF m 226 (la17 p0 p1 p2 p3 p4 p5 uw xl r_183 (3 : Int32) pp xx b302) [(.int 5), (.int 3)]) _
   refine XS.icmpYes X332.here hx rfl (pc0 := 226) (pc' := 250) rfl (hb hby at_226) rfl (flt ((by decide) : ¬ ((5 : Int32) < (3 : Int32)))).2.2.2 (by decide) (by decide) ?_
   show GO p e below T332 (mkF m 250 (la17 p0 p1 p2 p3 p4 p5 uw xl r_183 (3 : Int32) pp xx b302) []) _
   refine XS.iload X332.here hx rfl (hb hby at_250) rfl ?_
   show GO p e below T332 (mkF m 252 (la17 p0 p1 p2 p3 p4 p5 uw xl r_183 (3 : Int32) pp xx b302) [(.int 3)]) _
   refine XS.bipush X332.here hx rfl (hb hby at_252) ?_
   show GO p e below T332 (mkF m 254 (la17 p0 p1 p2 p3 p4 p5 uw xl r_183 (3 : Int32) pp xx b302) [(.int 6), (.int 3)]) _
   refine XS.icmpYes X332.here hx rfl (pc0 := 254) (pc' := 280) rfl (hb hby at_254) rfl (flt ((by decide) : ¬ ((6 : Int32) < (3 : Int32)))).2.2.2 (by decide) (by decide) ?_
   show GO p e below T332 (mkF m 280 (la17 p0 p1 p2 p3 p4 p5 uw xl r_183 (3 : Int32) pp xx b302) []) _
   refine XS.iload X332.here hx rfl (hb hby at_280) rfl ?_
   show GO p e below T332 (mkF m 282 (la17 p0 p1 p2 p3 p4 p5 uw xl r_183 (3 : Int32) pp xx b302) [(.int 3)]) _
   refine XS.bipush X332.here hx rfl (hb hby at_282) ?_
   show GO p e below T332 (mkF m 284 (la17 p0 p1 p2 p3 p4 p5 uw xl r_183 (3 : Int32) pp xx b302) [(.int 7), (.int 3)]) _
   refine XS.icmpYes X332.here hx rfl (pc0 := 284) (pc' := 310) rfl (hb hby at_284) rfl (flt ((by decide) : ¬ ((7 : Int32) < (3 : Int32)))).2.2.2 (by decide) (by decide) ?_
   show GO p e below T332 (mkF m 310 (la17 p0 p1 p2 p3 p4 p5 uw xl r_183 (3 : Int32) pp xx b302) []) _
   refine XS.iload X332.here hx rfl (hb hby at_310) rfl ?_
   show GO p e below T332 (mkF m 312 (la17 p0 p1 p2 p3 p4 p5 uw xl r_183 (3 : Int32) pp xx b302) [(.int 3)]) _
   refine XS.bipush X332.here hx rfl (hb hby at_312) ?_
   show GO p e below T332 (mkF m 314 (la17 p0 p1 p2 p3 p4 p5 uw xl r_183 (3 : Int32) pp xx b302) [(.int 8), (.int 3)]) _
   refine XS.icmpYes X332.here hx rfl (pc0 := 314) (pc' := 340) rfl (hb hby at_314) rfl (flt ((by decide) : ¬ ((8 : Int32) < (3 : Int32)))).2.2.2 (by decide) (by decide) ?_
   show GO p e below T332 (mkF m 340 (la17 p0 p1 p2 p3 p4 p5 uw xl r_183 (3 : Int32) pp xx b302) []) _
   refine XS.iload X332.here hx rfl (hb hby at_340) rfl ?_
   show GO p e below T332 (mkF m 342 (la17 p0 p1 p2 p3 p4 p5 uw xl r_183 (3 : Int32) pp xx b302) [(.int 3)]) _
   refine XS.bipush X332.here hx rfl (hb hby at_342) ?_
   show GO p e below T332 (mkF m 344 (la17 p0 p1 p2 p3 p4 p5 uw xl r_183 (3 : Int32) pp xx b302) [(.int 9), (.int 3)]) _
   refine XS.icmpYes X332.here hx rfl (pc0 := 344) (pc' := 370) rfl (hb hby at_344) rfl (flt ((by decide) : ¬ ((9 : Int32) < (3 : Int32)))).2.2.2 (by decide) (by decide) ?_
   show GO p e below T332 (mkF m 370 (la17 p0 p1 p2 p3 p4 p5 uw xl r_183 (3 : Int32) pp xx b302) []) _
   refine st335 _ ?_
   show GO p e below T335 (mkF m 373 (la17 p0 p1 p2 p3 p4 p5 uw xl r_183 (3 : Int32) pp xx b302) [(.ref b335)]) _
   refine XS.dup X335.here hx rfl (hb hby at_373) rfl rfl ?_
   show GO p e below T335 (mkF m 374 (la17 p0 p1 p2 p3 p4 p5 uw xl r_183 (3 : Int32) pp xx b302) [(.ref b335), (.ref b335)]) _
   refine XS.aload X335.here hx rfl (hb hby at_374) rfl rfl ?_
   show GO p e below T335 (mkF m 376 (la17 p0 p1 p2 p3 p4 p5 uw xl r_183 (3 : Int32) pp xx b302) [(.ref b302), (.ref b335), (.ref b335)]) _
   refine st342.trans ?_
   show GO p e below T342 (mkF m 379 (la17 p0 p1 p2 p3 p4 p5 uw xl r_183 (3 : Int32) pp xx b302) [(.ref b335)]) _
   refine XS.astore X342.here hx rfl (hb hby at_379) rfl rfl (l' := (la18 p0 p1 p2 p3 p4 p5 uw xl r_183 (3 : Int32) pp xx b302 b335)) rfl ?_
   show GO p e below T342 (mkF m 381 (la18 p0 p1 p2 p3 p4 p5 uw xl r_183 (3 : Int32) pp xx b302 b335) []) _
   refine XS.aload X342.here hx rfl (hb hby at_381) rfl rfl ?_
   show GO p e below T342 (mkF m 383 (la18 p0 p1 p2 p3 p4 p5 uw xl r_183 (3 : Int32) pp xx b302 b335) [(.ref b335)]) _
   refine st346 _ ?_
   show GO p e below T346 (mkF m 386 (la18 p0 p1 p2 p3 p4 p5 uw xl r_183 (3 : Int32) pp xx b302 b335) [(own_pick ([cv_304, cv_315, cv_325] : List Int32) u0 u1 u2 u3)]) _
   refine XS.aload X346.here hx rfl (hb hby at_386) rfl rfl ?_
   show GO p e below T346 (mkF m 388 (la18 p0 p1 p2 p3 p4 p5 uw xl r_183 (3 : Int32) pp xx b302 b335) [(.ref b335), (own_pick ([cv_304, cv_315, cv_325] : List Int32) u0 u1 u2 u3)]) _
   refine st350.trans ?_
   show GO p e below T350 (mkF m 391 (la18 p0 p1 p2 p3 p4 p5 uw xl r_183 (3 : Int32) pp xx b302 b335) [(own_pick ([cv_304, cv_315, cv_325] : List Int32) u0 u1 u2 u3), (own_pick ([cv_304, cv_315, cv_325] : List Int32) u0 u1 u2 u3)]) _
   refine Jvm.RoadKit.acmp (g := (mkF m 391 (la18 p0 p1 p2 p3 p4 p5 uw xl r_183 (3 : Int32) pp xx b302 b335) [(own_pick ([cv_304, cv_315, cv_325] : List Int32) u0 u1 u2 u3), (own_pick ([cv_304, cv_315, cv_325] : List Int32) u0 u1 u2 u3)])) X350 hx rfl (own_pickref _ _ _ _ _) (own_pickref _ _ _ _ _) (pc0 := 391) (pc' := 394) (same := true) rfl (hb hby at_391) rfl (decide_eq_true rfl) (by decide) (by decide) ?_
   show GO p e below T350 (mkF m 394 (la18 p0 p1 p2 p3 p4 p5 uw xl r_183 (3 : Int32) pp xx b302 b335) []) _
   refine XS.iconst X350.here hx rfl (hb hby at_394) ?_
   show GO p e below T350 (mkF m 395 (la18 p0 p1 p2 p3 p4 p5 uw xl r_183 (3 : Int32) pp xx b302 b335) [(.int 1)]) _
   refine XS.goto X350.here hx rfl (pc0 := 395) (pc' := 399) rfl (hb hby at_395) (by decide) (by decide) ?_
   show GO p e below T350 (mkF m 399 (la18 p0 p1 p2 p3 p4 p5 uw xl r_183 (3 : Int32) pp xx b302 b335) [(.int 1)]) _
   exact retN X350 hx (t := .boolean) Bd.returns (by simp) (hb hby at_399) hr
  ·show Qrm0 Z p0 p1 p2 p3 p4 p5 z0 f0 va u0 u1 u2 u3 w0 w1 w2 w3 y0 y1 y2 y3 kV b0 b1 b2 b3 h0 n0 _ T350.heap _
   rw [e350]
   exact ⟨rfl, N350⟩
  ·show CHr Z EL1 s.vm s.heap T350.vm T350.heap
   rw [hh, e350]
   exact CE
 ·obtain ⟨T357, h357, k357, X357, e357, E357, A357, st357⟩ := newP X186 hx hZ183 (wd hw 13 rfl) e186 (g := (mkF m 85 (la16 p0 p1 p2 p3 p4 p5 uw xl r_183 (4 : Int32) pp xx) [(.int 4)])) rfl (hb hby at_85) rfl (by decide) (cap := 4) (by decide) (by decide) (by decide) (by decide)
  obtain ⟨b357, g357⟩ : ∃ z, z = h183.size := ⟨_, rfl⟩
  rw [← g357] at A357 st357
  have C358 : CHr Z EL1 s.vm h0 T183.vm h357 := C184.trans (CHr.ext E357 C184.1)
  have sz357 : h183.size ≤ h357.size := E357.1
  have nz357 := Nat.le_trans nz183 sz357
  have lt357 := ltA A357.lt
  have V357 : Arv Z h357 b357 k357 .char (4 : Int32) [(.int 0), (.int 0), (.int 0), (.int 0)] (.int 0) := (Arv.new A357 (by decide)).pad (pad_rep [] (.int 0) 4)
  -- pc 111: KindNamedPinLaw.at by rm_at
  have f360 : Old Z n0 h357 := ((O0.keep K183 all0).ext E357)
  have f361 : Exa Z h357 r_183 kS0 := (p183_0.ext E357)
  have f362 : Fld Z h357 r_183 kS0 "coder" "B" (.int 0) := (p183_1.ext E357)
  have f363 : Fld Z h357 r_183 kS0 "value" "[B" (.ref t_183) := (p183_2.ext E357)
  have f364 : Arv Z h357 t_183 k_183 .byte N_183 vs_183 (.int 0) := (p183_3.ext E357)
  obtain ⟨_, _, ⟨T359, L359, k359, n359⟩, -, X359, ⟨Lc359, hQ359, l359, y359, z359⟩, st359⟩ := Jvm.LawKit.callS X357 hx (y := (⟨kS1, "at", kS3⟩ : MethodName)) hown183 (mvT hZ183 (wd hw 14 rfl)) (mvT hZ183 (wd hw 15 rfl)) (mvT hZ183 (wd hw 2 rfl)) (mvT hZ183 (wd hw 16 rfl)) (by decide) (backOf (W := 2) (rm_at l Z a0 hw [] (0 : Int32) uw pp xx p3 p4 p5 r_183 t_183 k_183 N_183 vs_183 cs_183 z0 f0 h357 n0 nz357 f360 f361 f362 f363 f364 (by first | assumption | decide | omega) (by first | assumption | decide | omega) (by first | assumption | decide | omega) (by first | assumption | decide | omega) r183_0 r183_1 r183_2 r183_3 (by decide) rxx qxx) hZ183 (wd hw 16 rfl) (wd hw 2 rfl) (by decide) (by decide)) (g := (mkF m 111 (la17 p0 p1 p2 p3 p4 p5 uw xl r_183 (4 : Int32) pp xx b357) [(.int p5), (.int p4), (.int p3), (.int xx), (.int pp), (.int uw), (.ref r_183), (.int 0), (.int 0), (.ref b357)])) rfl (by rw [hml]; rfl) (argsL := [(.int 0), (.ref r_183), (.int uw), (.int pp), (.int xx), (.int p3), (.int p4), (.int p5)]) (rest := [(.int 0), (.ref b357)]) (lenOf pd_9 rfl) rfl (wz rfl) (hb hby at_111) (fun _ _ => ⟨rfl, e357, (by decide : 3 + 0 ≤ _), (by decide : 44 + 0 ≤ _)⟩)
  dsimp only [Pt.U, Pt.locs, Pt.cells, Pt.slots] at X359 l359 y359 z359 st359 hQ359
  rw [l359, y359, z359] at X359
  obtain ⟨cv_359, rfl, N359q, e359, r359_0, r359_1⟩ := hQ359
  have N359 := Fr.app N186 N359q
  obtain ⟨cl365, Ar365, q365, S365, M365, H365, G365⟩ := id V357
  have hin365 : ¬ ((0 : Int32) < 0 ∨ cl365.slots.size ≤ ((0 : Int32)).toNatClampNeg) := inb_of S365 ⟨by decide, by decide⟩
  obtain ⟨T366, h366, X366, e366, W366, st366⟩ := stC X359 hx hZ183 e359 Ar365 (j := (0 : Int32)) hin365 (g := (mkF m 114 (la17 p0 p1 p2 p3 p4 p5 uw xl r_183 (4 : Int32) pp xx b357) [(.int cv_359), (.int 0), (.ref b357)])) rfl rfl (hb hby at_114)
  have ge367 : n0 ≤ b357 := by omega
  have N366 := Fr.snoc X366 N359 ge367
  have ne368 : b357 ≠ r_183 := Ne.symm (Exa.neArv f361 V357 (wd hw 6 rfl))
  have C369 : CHr Z EL1 s.vm h0 T183.vm h366 := C358.trans (CHr.wr W366 (Safe.arv hZ183.alike V357 (by decide)) C358.1)
  have sz366 : h357.size ≤ h366.size := Nat.le_of_eq W366.size.symm
  have nz366 := Nat.le_trans nz357 sz366
  have V366 : Arv Z h366 b357 k357 .char (4 : Int32) [(.int (nar .char cv_359)), (.int 0), (.int 0), (.int 0)] (.int 0) := Arv.set Ar365 q365 S365 M365 H365 G365 (fits_nar_char _) W366 0 rfl (Nat.le_of_ble_eq_true rfl)
  -- pc 138: KindNamedPinLaw.at by rm_at
  have f371 : Old Z n0 h366 := (f360.wr W366 ge367)
  have f372 : Exa Z h366 r_183 kS0 := (f361.wr W366)
  have f373 : Fld Z h366 r_183 kS0 "coder" "B" (.int 0) := (f362.other W366 (Or.inl (Ne.symm ne368)))
  have f374 : Fld Z h366 r_183 kS0 "value" "[B" (.ref t_183) := (f363.other W366 (Or.inl (Ne.symm ne368)))
  have ne375 : t_183 ≠ b357 := neN (by omega)
  have f376 : Arv Z h366 t_183 k_183 .byte N_183 vs_183 (.int 0) := (f364.other W366 ne375)
  obtain ⟨_, _, ⟨T370, L370, k370, n370⟩, -, X370, ⟨Lc370, hQ370, l370, y370, z370⟩, st370⟩ := Jvm.LawKit.callS X366 hx (y := (⟨kS1, "at", kS3⟩ : MethodName)) hown183 (mvT hZ183 (wd hw 14 rfl)) (mvT hZ183 (wd hw 15 rfl)) (mvT hZ183 (wd hw 2 rfl)) (mvT hZ183 (wd hw 16 rfl)) (by decide) (backOf (W := 2) (rm_at l Z a0 hw [] (1 : Int32) uw pp xx p3 p4 p5 r_183 t_183 k_183 N_183 vs_183 cs_183 z0 f0 h366 n0 nz366 f371 f372 f373 f374 f376 (by first | assumption | decide | omega) (by first | assumption | decide | omega) (by first | assumption | decide | omega) (by first | assumption | decide | omega) r183_0 r183_1 r183_2 r183_3 (by decide) rxx qxx) hZ183 (wd hw 16 rfl) (wd hw 2 rfl) (by decide) (by decide)) (g := (mkF m 138 (la17 p0 p1 p2 p3 p4 p5 uw xl r_183 (4 : Int32) pp xx b357) [(.int p5), (.int p4), (.int p3), (.int xx), (.int pp), (.int uw), (.ref r_183), (.int 1), (.int 1), (.ref b357)])) rfl (by rw [hml]; rfl) (argsL := [(.int 1), (.ref r_183), (.int uw), (.int pp), (.int xx), (.int p3), (.int p4), (.int p5)]) (rest := [(.int 1), (.ref b357)]) (lenOf pd_9 rfl) rfl (wz rfl) (hb hby at_138) (fun _ _ => ⟨rfl, e366, (by decide : 3 + 0 ≤ _), (by decide : 44 + 0 ≤ _)⟩)
  dsimp only [Pt.U, Pt.locs, Pt.cells, Pt.slots] at X370 l370 y370 z370 st370 hQ370
  rw [l370, y370, z370] at X370
  obtain ⟨cv_370, rfl, N370q, e370, r370_0, r370_1⟩ := hQ370
  have N370 := Fr.app N366 N370q
  obtain ⟨cl377, Ar377, q377, S377, M377, H377, G377⟩ := id V366
  have hin377 : ¬ ((1 : Int32) < 0 ∨ cl377.slots.size ≤ ((1 : Int32)).toNatClampNeg) := inb_of S377 ⟨by decide, by decide⟩
  obtain ⟨T378, h378, X378, e378, W378, st378⟩ := stC X370 hx hZ183 e370 Ar377 (j := (1 : Int32)) hin377 (g := (mkF m 141 (la17 p0 p1 p2 p3 p4 p5 uw xl r_183 (4 : Int32) pp xx b357) [(.int cv_370), (.int 1), (.ref b357)])) rfl rfl (hb hby at_141)
  have N378 := Fr.snoc X378 N370 ge367
  have C379 : CHr Z EL1 s.vm h0 T183.vm h378 := C369.trans (CHr.wr W378 (Safe.arv hZ183.alike V366 (by decide)) C369.1)
  have sz378 : h366.size ≤ h378.size := Nat.le_of_eq W378.size.symm
  have nz378 := Nat.le_trans nz366 sz378
  have V378 : Arv Z h378 b357 k357 .char (4 : Int32) [(.int (nar .char cv_359)), (.int (nar .char cv_370)), (.int 0), (.int 0)] (.int 0) := Arv.set Ar377 q377 S377 M377 H377 G377 (fits_nar_char _) W378 1 rfl (Nat.le_of_ble_eq_true rfl)
  -- pc 165: KindNamedPinLaw.at by rm_at
  have f381 : Old Z n0 h378 := (f371.wr W378 ge367)
  have f382 : Exa Z h378 r_183 kS0 := (f372.wr W378)
  have f383 : Fld Z h378 r_183 kS0 "coder" "B" (.int 0) := (f373.other W378 (Or.inl (Ne.symm ne368)))
  have f384 : Fld Z h378 r_183 kS0 "value" "[B" (.ref t_183) := (f374.other W378 (Or.inl (Ne.symm ne368)))
  have f385 : Arv Z h378 t_183 k_183 .byte N_183 vs_183 (.int 0) := (f376.other W378 ne375)
  obtain ⟨_, _, ⟨T380, L380, k380, n380⟩, -, X380, ⟨Lc380, hQ380, l380, y380, z380⟩, st380⟩ := Jvm.LawKit.callS X378 hx (y := (⟨kS1, "at", kS3⟩ : MethodName)) hown183 (mvT hZ183 (wd hw 14 rfl)) (mvT hZ183 (wd hw 15 rfl)) (mvT hZ183 (wd hw 2 rfl)) (mvT hZ183 (wd hw 16 rfl)) (by decide) (backOf (W := 2) (rm_at l Z a0 hw [] (2 : Int32) uw pp xx p3 p4 p5 r_183 t_183 k_183 N_183 vs_183 cs_183 z0 f0 h378 n0 nz378 f381 f382 f383 f384 f385 (by first | assumption | decide | omega) (by first | assumption | decide | omega) (by first | assumption | decide | omega) (by first | assumption | decide | omega) r183_0 r183_1 r183_2 r183_3 (by decide) rxx qxx) hZ183 (wd hw 16 rfl) (wd hw 2 rfl) (by decide) (by decide)) (g := (mkF m 165 (la17 p0 p1 p2 p3 p4 p5 uw xl r_183 (4 : Int32) pp xx b357) [(.int p5), (.int p4), (.int p3), (.int xx), (.int pp), (.int uw), (.ref r_183), (.int 2), (.int 2), (.ref b357)])) rfl (by rw [hml]; rfl) (argsL := [(.int 2), (.ref r_183), (.int uw), (.int pp), (.int xx), (.int p3), (.int p4), (.int p5)]) (rest := [(.int 2), (.ref b357)]) (lenOf pd_9 rfl) rfl (wz rfl) (hb hby at_165) (fun _ _ => ⟨rfl, e378, (by decide : 3 + 0 ≤ _), (by decide : 44 + 0 ≤ _)⟩)
  dsimp only [Pt.U, Pt.locs, Pt.cells, Pt.slots] at X380 l380 y380 z380 st380 hQ380
  rw [l380, y380, z380] at X380
  obtain ⟨cv_380, rfl, N380q, e380, r380_0, r380_1⟩ := hQ380
  have N380 := Fr.app N378 N380q
  obtain ⟨cl386, Ar386, q386, S386, M386, H386, G386⟩ := id V378
  have hin386 : ¬ ((2 : Int32) < 0 ∨ cl386.slots.size ≤ ((2 : Int32)).toNatClampNeg) := inb_of S386 ⟨by decide, by decide⟩
  obtain ⟨T387, h387, X387, e387, W387, st387⟩ := stC X380 hx hZ183 e380 Ar386 (j := (2 : Int32)) hin386 (g := (mkF m 168 (la17 p0 p1 p2 p3 p4 p5 uw xl r_183 (4 : Int32) pp xx b357) [(.int cv_380), (.int 2), (.ref b357)])) rfl rfl (hb hby at_168)
  have N387 := Fr.snoc X387 N380 ge367
  have C388 : CHr Z EL1 s.vm h0 T183.vm h387 := C379.trans (CHr.wr W387 (Safe.arv hZ183.alike V378 (by decide)) C379.1)
  have sz387 : h378.size ≤ h387.size := Nat.le_of_eq W387.size.symm
  have nz387 := Nat.le_trans nz378 sz387
  have V387 : Arv Z h387 b357 k357 .char (4 : Int32) [(.int (nar .char cv_359)), (.int (nar .char cv_370)), (.int (nar .char cv_380)), (.int 0)] (.int 0) := Arv.set Ar386 q386 S386 M386 H386 G386 (fits_nar_char _) W387 2 rfl (Nat.le_of_ble_eq_true rfl)
  -- pc 192: KindNamedPinLaw.at by rm_at
  have f390 : Old Z n0 h387 := (f381.wr W387 ge367)
  have f391 : Exa Z h387 r_183 kS0 := (f382.wr W387)
  have f392 : Fld Z h387 r_183 kS0 "coder" "B" (.int 0) := (f383.other W387 (Or.inl (Ne.symm ne368)))
  have f393 : Fld Z h387 r_183 kS0 "value" "[B" (.ref t_183) := (f384.other W387 (Or.inl (Ne.symm ne368)))
  have f394 : Arv Z h387 t_183 k_183 .byte N_183 vs_183 (.int 0) := (f385.other W387 ne375)
  obtain ⟨_, _, ⟨T389, L389, k389, n389⟩, -, X389, ⟨Lc389, hQ389, l389, y389, z389⟩, st389⟩ := Jvm.LawKit.callS X387 hx (y := (⟨kS1, "at", kS3⟩ : MethodName)) hown183 (mvT hZ183 (wd hw 14 rfl)) (mvT hZ183 (wd hw 15 rfl)) (mvT hZ183 (wd hw 2 rfl)) (mvT hZ183 (wd hw 16 rfl)) (by decide) (backOf (W := 2) (rm_at l Z a0 hw [] (3 : Int32) uw pp xx p3 p4 p5 r_183 t_183 k_183 N_183 vs_183 cs_183 z0 f0 h387 n0 nz387 f390 f391 f392 f393 f394 (by first | assumption | decide | omega) (by first | assumption | decide | omega) (by first | assumption | decide | omega) (by first | assumption | decide | omega) r183_0 r183_1 r183_2 r183_3 (by decide) rxx qxx) hZ183 (wd hw 16 rfl) (wd hw 2 rfl) (by decide) (by decide)) (g := (mkF m 192 (la17 p0 p1 p2 p3 p4 p5 uw xl r_183 (4 : Int32) pp xx b357) [(.int p5), (.int p4), (.int p3), (.int xx), (.int pp), (.int uw), (.ref r_183), (.int 3), (.int 3), (.ref b357)])) rfl (by rw [hml]; rfl) (argsL := [(.int 3), (.ref r_183), (.int uw), (.int pp), (.int xx), (.int p3), (.int p4), (.int p5)]) (rest := [(.int 3), (.ref b357)]) (lenOf pd_9 rfl) rfl (wz rfl) (hb hby at_192) (fun _ _ => ⟨rfl, e387, (by decide : 3 + 0 ≤ _), (by decide : 44 + 0 ≤ _)⟩)
  dsimp only [Pt.U, Pt.locs, Pt.cells, Pt.slots] at X389 l389 y389 z389 st389 hQ389
  rw [l389, y389, z389] at X389
  obtain ⟨cv_389, rfl, N389q, e389, r389_0, r389_1⟩ := hQ389
  have N389 := Fr.app N387 N389q
  obtain ⟨cl395, Ar395, q395, S395, M395, H395, G395⟩ := id V387
  have hin395 : ¬ ((3 : Int32) < 0 ∨ cl395.slots.size ≤ ((3 : Int32)).toNatClampNeg) := inb_of S395 ⟨by decide, by decide⟩
  obtain ⟨T396, h396, X396, e396, W396, st396⟩ := stC X389 hx hZ183 e389 Ar395 (j := (3 : Int32)) hin395 (g := (mkF m 195 (la17 p0 p1 p2 p3 p4 p5 uw xl r_183 (4 : Int32) pp xx b357) [(.int cv_389), (.int 3), (.ref b357)])) rfl rfl (hb hby at_195)
  have N396 := Fr.snoc X396 N389 ge367
  have C397 : CHr Z EL1 s.vm h0 T183.vm h396 := C388.trans (CHr.wr W396 (Safe.arv hZ183.alike V387 (by decide)) C388.1)
  have sz396 : h387.size ≤ h396.size := Nat.le_of_eq W396.size.symm
  have nz396 := Nat.le_trans nz387 sz396
  have V396 : Arv Z h396 b357 k357 .char (4 : Int32) [(.int (nar .char cv_359)), (.int (nar .char cv_370)), (.int (nar .char cv_380)), (.int (nar .char cv_389))] (.int 0) := Arv.set Ar395 q395 S395 M395 H395 G395 (fits_nar_char _) W396 3 rfl (Nat.le_of_ble_eq_true rfl)
  have V398 : Arv Z h396 b357 k357 .char (4 : Int32) [(.int cv_359), (.int cv_370), (.int cv_380), (.int cv_389)] (.int 0) := by
   have q := V396
   rw [r359_1, r370_1, r380_1, r389_1] at q
   exact q
  obtain ⟨T399, h399, X399, e399, E399, A399, D399, U399, st399⟩ := newO X396 hx hZ183 hown183 (wd hw 20 rfl) (wd hw 6 rfl) (wd hw 5 rfl) e396 (g := (mkF m 370 (la17 p0 p1 p2 p3 p4 p5 uw xl r_183 (4 : Int32) pp xx b357) [])) rfl (hb hby at_370) (by decide) (by decide)
  obtain ⟨b399, g399⟩ : ∃ z, z = h396.size := ⟨_, rfl⟩
  rw [← g399] at A399 D399 U399 st399
  have C400 : CHr Z EL1 s.vm h0 T183.vm h399 := C397.trans (CHr.ext E399 C397.1)
  have sz399 : h396.size ≤ h399.size := E399.1
  have nz399 := Nat.le_trans nz396 sz399
  have lt399 := ltA A399.lt
  have B399 : Safe Z EL1 T183.vm h399 b399 := Safe.ext E399 C397.1 (Safe.new (by omega))
  have f401 : Fld Z h399 b399 kS0 "value" "[B" .null := D399 (Or.inr (wd hw 8 rfl)) (ty := (.array .byte)) (by decide)
  have f402 : Fld Z h399 b399 kS0 "coder" "B" (.int 0) := D399 (Or.inr (wd hw 9 rfl)) (ty := .byte) (by decide)
  have f403 : Arv Z h399 b357 k357 .char (4 : Int32) [(.int cv_359), (.int cv_370), (.int cv_380), (.int cv_389)] (.int 0) := (V398.ext E399)
  have f404 : Old Z n0 h399 := ((f390.wr W396 ge367).ext E399)
  have S405 : Sta Z h399 kS0 "COMPACT_STRINGS" "Z" (.int z0) := SZc.ext f404.2
  obtain ⟨v406, _, ⟨T406, L406, k406, n406⟩, -, X406, ⟨Lc406, hQ406, l406, y406, z406⟩, st406⟩ := X399.specialBack hx (y := (⟨kS0, "<init>", "([C)V"⟩ : MethodName)) rfl hown183 (mvT hZ183 (wd hw 21 rfl)) (mvT hZ183 (wd hw 22 rfl)) (mvT hZ183 (wd hw 23 rfl)) (by decide) (StrChars.Road.backV (W := 1) hZ183 (own_hws hw) (kI := 4) (wd hw 6 rfl) (cs := ([cv_359, cv_370, cv_380, cv_389] : List Int32)) (bs := ([cv_359, cv_370, cv_380, cv_389] : List Int32).map (fun c => c.toInt8.toInt32)) (n := 4) (n0 := n0) (by omega) (by omega) A399 f401 f402 f403 S405 hz0 rfl rfl (by decide) (by decide) (own_allS r359_0 (own_allS r370_0 (own_allS r380_0 (own_allS r389_0 own_all0)))) rfl (by decide) (by decide)) (g := (mkF m 376 (la17 p0 p1 p2 p3 p4 p5 uw xl r_183 (4 : Int32) pp xx b357) [(.ref b357), (.ref b399), (.ref b399)])) rfl (by rw [hml]; rfl) (Steps.refl _) (a := b399) (argsL := [(.ref b357)]) (rest := [(.ref b399)]) (lenOf pd_7 rfl) rfl (wz rfl) (hb hby at_376) (fun _ _ => ⟨rfl, e399, (by decide : 4 + 1 ≤ _), (by decide : 48 + 4 ≤ _)⟩)
  dsimp only [Pt.U, Pt.locs, Pt.cells, Pt.slots] at X406 l406 y406 z406 st406 hQ406
  rw [l406, y406, z406] at X406
  obtain ⟨h406, e406⟩ : ∃ z, T406.heap = z := ⟨_, rfl⟩
  rw [e406] at hQ406
  obtain ⟨rfl, N406q, K406, A406, Fc406, t406, kb406, u406, lo406, nt406, Fv406, V406⟩ := hQ406
  have N406 := Fr.app N396 N406q
  have f407 : Arv Z h399 t_183 k_183 .byte N_183 vs_183 (.int 0) := ((f394.other W396 ne375).ext E399)
  have ne408 : b399 ≠ t_183 := Exa.neArv A399 f407 (wd hw 6 rfl)
  have C409 : CHr Z EL1 s.vm h0 T183.vm h406 := C400.trans (CHr.keep K406 (sfS B399 sf0) C400.1)
  have sz406 : h399.size ≤ h406.size := K406.1
  have nz406 := Nat.le_trans nz399 sz406
  have lt406 := ltA V406.lt
  have hcd406 : StrChars.Road.CodA ([cv_359, cv_370, cv_380, cv_389] : List Int32) 0 (4 : Int32) ((([cv_359, cv_370, cv_380, cv_389] : List Int32).map (fun c => c.toInt8.toInt32)).map Value.int) := own_codn rfl (fun c hc => ((own_allS r359_0 (own_allS r370_0 (own_allS r380_0 (own_allS r389_0 own_all0)))) c hc).2)
  -- pc 383: Kind.named by rm_named
  have ge411 : n0 ≤ b399 := by omega
  have f412 : Old Z n0 h406 := (f404.keep K406 (allS ge411 all0))
  obtain ⟨_, _, ⟨T410, L410, k410, n410⟩, -, X410, ⟨Lc410, hQ410, l410, y410, z410⟩, st410⟩ := Jvm.LawKit.callS X406 hx (y := (⟨"com/example/rolegrant/rolegrant/policy/Kind", "named", kS2⟩ : MethodName)) hown183 (mvT hZ183 (wd hw 44 rfl)) (mvT hZ183 (wd hw 45 rfl)) (mvT hZ183 (wd hw 46 rfl)) (mvT hZ183 (wd hw 47 rfl)) (by decide) (backOf (W := 0) (rm_named l Z a0 hw [] b399 t406 kb406 (4 : Int32) ((([cv_359, cv_370, cv_380, cv_389] : List Int32).map (fun c => c.toInt8.toInt32)).map Value.int) ([cv_359, cv_370, cv_380, cv_389] : List Int32) z0 va u0 u1 u2 u3 w0 w1 w2 w3 y0 y1 y2 y3 kV b0 b1 b2 b3 h406 n0 nz406 f412 A406 Fc406 Fv406 V406 (by first | assumption | decide | omega) (by first | assumption | decide | omega) hcd406 (own_up (own_allS r359_0 (own_allS r370_0 (own_allS r380_0 (own_allS r389_0 own_all0))))) (Nat.le_of_ble_eq_true rfl) (by first | assumption | decide | omega)) hZ183 (wd hw 47 rfl) (wd hw 46 rfl) (by decide) (by decide)) (g := (mkF m 383 (la18 p0 p1 p2 p3 p4 p5 uw xl r_183 (4 : Int32) pp xx b357 b399) [(.ref b399)])) rfl (by rw [hml]; rfl) (argsL := [(.ref b399)]) (rest := []) (lenOf pd_8 rfl) rfl (wz rfl) (hb hby at_383) (fun _ _ => ⟨rfl, e406, (by decide : 5 + 1 ≤ _), (by decide : 52 + 4 ≤ _)⟩)
  dsimp only [Pt.U, Pt.locs, Pt.cells, Pt.slots] at X410 l410 y410 z410 st410 hQ410
  rw [l410, y410, z410] at X410
  obtain ⟨h410, e410⟩ : ∃ z, T410.heap = z := ⟨_, rfl⟩
  rw [e410] at hQ410
  obtain ⟨rfl, N410q, K410⟩ := hQ410
  have N410 := Fr.app N406 N410q
  have C413 : CHr Z EL1 s.vm h0 T183.vm h410 := C409.trans (CHr.keep K410 sf0 C409.1)
  have sz410 : h406.size ≤ h410.size := K410.1
  have nz410 := Nat.le_trans nz406 sz410
  -- pc 388: KindNamedPinLaw.expected by rm_exp
  have f415 : Old Z n0 h410 := (f412.keep K410 all0)
  have f416 : Exa Z h410 b399 kS0 := (A406.keep K410)
  have f417 : Fld Z h410 b399 kS0 "coder" "B" (.int 0) := (Fc406.keep K410 nin0)
  have f418 : Fld Z h410 b399 kS0 "value" "[B" (.ref t406) := (Fv406.keep K410 nin0)
  have f419 : Arv Z h410 t406 kb406 .byte (4 : Int32) ((([cv_359, cv_370, cv_380, cv_389] : List Int32).map (fun c => c.toInt8.toInt32)).map Value.int) (.int 0) := (V406.keep K410 nin0)
  obtain ⟨_, _, ⟨T414, L414, k414, n414⟩, -, X414w, hS414w, gr414, ⟨Lc414, hQ414, l414, y414, z414, C414w⟩, st414⟩ := callSS X410 hx (y := (⟨kS1, "expected", kS2⟩ : MethodName)) hown183 (mvT hZ183 (wd hw 79 rfl)) (mvT hZ183 (wd hw 80 rfl)) (mvT hZ183 (wd hw 2 rfl)) (mvT hZ183 (wd hw 81 rfl)) (by decide) (own_backS (W := 1) (rm_exp l Z a0 hw [] b399 t406 kb406 (4 : Int32) ((([cv_359, cv_370, cv_380, cv_389] : List Int32).map (fun c => c.toInt8.toInt32)).map Value.int) ([cv_359, cv_370, cv_380, cv_389] : List Int32) z0 va u0 u1 u2 u3 w0 w1 w2 w3 y0 y1 y2 y3 kV b0 b1 b2 b3 h410 n0 nz410 f415 f416 f417 f418 f419 (by first | assumption | decide | omega) (by first | assumption | decide | omega) hcd406 (own_up (own_allS r359_0 (own_allS r370_0 (own_allS r380_0 (own_allS r389_0 own_all0))))) (Nat.le_of_ble_eq_true rfl) (by first | assumption | decide | omega)) hZ183 (wd hw 81 rfl) (wd hw 2 rfl) (by decide) (by decide) (own_EW hw) C413.1 sf0 all0) (g := (mkF m 388 (la18 p0 p1 p2 p3 p4 p5 uw xl r_183 (4 : Int32) pp xx b357 b399) [(.ref b399), (own_pick ([cv_359, cv_370, cv_380, cv_389] : List Int32) u0 u1 u2 u3)])) rfl (by rw [hml]; rfl) (argsL := [(.ref b399)]) (rest := [(own_pick ([cv_359, cv_370, cv_380, cv_389] : List Int32) u0 u1 u2 u3)]) (lenOf pd_8 rfl) rfl (own_wx _ _ _ _ _) (hb hby at_388) (fun _ _ => ⟨rfl, e410, (by decide : 6 + 8 ≤ _), (by decide : 56 + 104 ≤ _)⟩)
  dsimp only [Pt.U, Pt.locs, Pt.cells, Pt.slots] at X414w hS414w gr414 l414 y414 z414 st414 hQ414 C414w
  rw [l414, y414, z414] at X414w
  obtain ⟨X414, hS414, hZ414, hown414⟩ := rebS hS183 (by rw [e410]; omega) X414w hS414w gr414 hZ183 hown183
  obtain ⟨h414, e414⟩ : ∃ z, T414.heap = z := ⟨_, rfl⟩
  rw [e414] at hQ414
  obtain ⟨rfl, N414q, K414⟩ := hQ414
  have N414 := Fr.app N410 N414q
  rw [e414] at C414w hS414
  have hk414 : h414.size ≤ h414.size := Nat.le_refl _
  have C420 : CHr Z EL1 s.vm h0 T414.vm h414 := C413.trans (C414w)
  have sz414 : h410.size ≤ h414.size := K414.1
  have nz414 := Nat.le_trans nz410 sz414
  obtain ⟨fs, hr, hrun, hended, hE⟩ := X414.leaveW hS414 (by rw [e414]; omega) (v := some (.int 1)) (fun h => by rw [Bd.returns] at h; cases h)
  have CE := C420.trans (CHv.at X414 hZ414 (own_EW hw) C420.1)
  refine ⟨_, _, pre196 _ ?_, hrun, hended, _, _, rfl, ?_, ?_, ⟨hE.1, hE.2.1, hE.2.2.1, hE.2.2.2.mono (by decide) (by decide)⟩⟩
  ·show GO p e below T186 (mkF m 83 (la16 p0 p1 p2 p3 p4 p5 uw xl r_183 (4 : Int32) pp xx) []) _
   refine XS.iload X186.here hx rfl (hb hby at_83) rfl ?_
   show GO p e below T186 (mkF m 85 (la16 p0 p1 p2 p3 p4 p5 uw xl r_183 (4 : Int32) pp xx) [(.int 4)]) _
   refine st357 _ ?_
   show GO p e below T357 (mkF m 87 (la16 p0 p1 p2 p3 p4 p5 uw xl r_183 (4 : Int32) pp xx) [(.ref b357)]) _
   refine XS.astore X357.here hx rfl (hb hby at_87) rfl rfl (l' := (la17 p0 p1 p2 p3 p4 p5 uw xl r_183 (4 : Int32) pp xx b357)) rfl ?_
   show GO p e below T357 (mkF m 89 (la17 p0 p1 p2 p3 p4 p5 uw xl r_183 (4 : Int32) pp xx b357) []) _
   refine XS.iload X357.here hx rfl (hb hby at_89) rfl ?_
   show GO p e below T357 (mkF m 91 (la17 p0 p1 p2 p3 p4 p5 uw xl r_183 (4 : Int32) pp xx b357) [(.int 4)]) _
   refine XS.ifNo X357.here hx rfl (hb hby at_91) rfl ((if0 _ _).trans (tlt ((by decide) : (0 : Int32) < (4 : Int32))).2.2.2) ?_
   show GO p e below T357 (mkF m 94 (la17 p0 p1 p2 p3 p4 p5 uw xl r_183 (4 : Int32) pp xx b357) []) _
   refine XS.aload X357.here hx rfl (hb hby at_94) rfl rfl ?_
   show GO p e below T357 (mkF m 96 (la17 p0 p1 p2 p3 p4 p5 uw xl r_183 (4 : Int32) pp xx b357) [(.ref b357)]) _
   refine XS.iconst X357.here hx rfl (hb hby at_96) ?_
   show GO p e below T357 (mkF m 97 (la17 p0 p1 p2 p3 p4 p5 uw xl r_183 (4 : Int32) pp xx b357) [(.int 0), (.ref b357)]) _
   refine XS.iconst X357.here hx rfl (hb hby at_97) ?_
   show GO p e below T357 (mkF m 98 (la17 p0 p1 p2 p3 p4 p5 uw xl r_183 (4 : Int32) pp xx b357) [(.int 0), (.int 0), (.ref b357)]) _
   refine XS.aload X357.here hx rfl (hb hby at_98) rfl rfl ?_
   show GO p e below T357 (mkF m 100 (la17 p0 p1 p2 p3 p4 p5 uw xl r_183 (4 : Int32) pp xx b357) [(.ref r_183), (.int 0), (.int 0), (.ref b357)]) _
   refine XS.iload X357.here hx rfl (hb hby at_100) rfl ?_
   show GO p e below T357 (mkF m 102 (la17 p0 p1 p2 p3 p4 p5 uw xl r_183 (4 : Int32) pp xx b357) [(.int uw), (.ref r_183), (.int 0), (.int 0), (.ref b357)]) _
   refine XS.iload X357.here hx rfl (hb hby at_102) rfl ?_
   show GO p e below T357 (mkF m 104 (la17 p0 p1 p2 p3 p4 p5 uw xl r_183 (4 : Int32) pp xx b357) [(.int pp), (.int uw), (.ref r_183), (.int 0), (.int 0), (.ref b357)]) _
   refine XS.iload X357.here hx rfl (hb hby at_104) rfl ?_
   show GO p e below T357 (mkF m 106 (la17 p0 p1 p2 p3 p4 p5 uw xl r_183 (4 : Int32) pp xx b357) [(.int xx), (.int pp), (.int uw), (.ref r_183), (.int 0), (.int 0), (.ref b357)]) _
   refine XS.iloadN X357.here hx rfl (hb hby at_106) rfl ?_
   show GO p e below T357 (mkF m 107 (la17 p0 p1 p2 p3 p4 p5 uw xl r_183 (4 : Int32) pp xx b357) [(.int p3), (.int xx), (.int pp), (.int uw), (.ref r_183), (.int 0), (.int 0), (.ref b357)]) _
   refine XS.iload X357.here hx rfl (hb hby at_107) rfl ?_
   show GO p e below T357 (mkF m 109 (la17 p0 p1 p2 p3 p4 p5 uw xl r_183 (4 : Int32) pp xx b357) [(.int p4), (.int p3), (.int xx), (.int pp), (.int uw), (.ref r_183), (.int 0), (.int 0), (.ref b357)]) _
   refine XS.iload X357.here hx rfl (hb hby at_109) rfl ?_
   show GO p e below T357 (mkF m 111 (la17 p0 p1 p2 p3 p4 p5 uw xl r_183 (4 : Int32) pp xx b357) [(.int p5), (.int p4), (.int p3), (.int xx), (.int pp), (.int uw), (.ref r_183), (.int 0), (.int 0), (.ref b357)]) _
   refine st359 _ ?_
   show GO p e below T359 (mkF m 114 (la17 p0 p1 p2 p3 p4 p5 uw xl r_183 (4 : Int32) pp xx b357) [(.int cv_359), (.int 0), (.ref b357)]) _
   refine st366 _ ?_
   show GO p e below T366 (mkF m 115 (la17 p0 p1 p2 p3 p4 p5 uw xl r_183 (4 : Int32) pp xx b357) []) _
   refine XS.iload X366.here hx rfl (hb hby at_115) rfl ?_
   show GO p e below T366 (mkF m 117 (la17 p0 p1 p2 p3 p4 p5 uw xl r_183 (4 : Int32) pp xx b357) [(.int 4)]) _
   refine XS.iconst X366.here hx rfl (hb hby at_117) ?_
   show GO p e below T366 (mkF m 118 (la17 p0 p1 p2 p3 p4 p5 uw xl r_183 (4 : Int32) pp xx b357) [(.int 1), (.int 4)]) _
   refine XS.icmpNo X366.here hx rfl (hb hby at_118) rfl (tlt ((by decide) : (1 : Int32) < (4 : Int32))).2.2.2 ?_
   show GO p e below T366 (mkF m 121 (la17 p0 p1 p2 p3 p4 p5 uw xl r_183 (4 : Int32) pp xx b357) []) _
   refine XS.aload X366.here hx rfl (hb hby at_121) rfl rfl ?_
   show GO p e below T366 (mkF m 123 (la17 p0 p1 p2 p3 p4 p5 uw xl r_183 (4 : Int32) pp xx b357) [(.ref b357)]) _
   refine XS.iconst X366.here hx rfl (hb hby at_123) ?_
   show GO p e below T366 (mkF m 124 (la17 p0 p1 p2 p3 p4 p5 uw xl r_183 (4 : Int32) pp xx b357) [(.int 1), (.ref b357)]) _
   refine XS.iconst X366.here hx rfl (hb hby at_124) ?_
   show GO p e below T366 (mkF m 125 (la17 p0 p1 p2 p3 p4 p5 uw xl r_183 (4 : Int32) pp xx b357) [(.int 1), (.int 1), (.ref b357)]) _
   refine XS.aload X366.here hx rfl (hb hby at_125) rfl rfl ?_
   show GO p e below T366 (mkF m 127 (la17 p0 p1 p2 p3 p4 p5 uw xl r_183 (4 : Int32) pp xx b357) [(.ref r_183), (.int 1), (.int 1), (.ref b357)]) _
   refine XS.iload X366.here hx rfl (hb hby at_127) rfl ?_
   show GO p e below T366 (mkF m 129 (la17 p0 p1 p2 p3 p4 p5 uw xl r_183 (4 : Int32) pp xx b357) [(.int uw), (.ref r_183), (.int 1), (.int 1), (.ref b357)]) _
   refine XS.iload X366.here hx rfl (hb hby at_129) rfl ?_
   show GO p e below T366 (mkF m 131 (la17 p0 p1 p2 p3 p4 p5 uw xl r_183 (4 : Int32) pp xx b357) [(.int pp), (.int uw), (.ref r_183), (.int 1), (.int 1), (.ref b357)]) _
   refine XS.iload X366.here hx rfl (hb hby at_131) rfl ?_
   show GO p e below T366 (mkF m 133 (la17 p0 p1 p2 p3 p4 p5 uw xl r_183 (4 : Int32) pp xx b357) [(.int xx), (.int pp), (.int uw), (.ref r_183), (.int 1), (.int 1), (.ref b357)]) _
   refine XS.iloadN X366.here hx rfl (hb hby at_133) rfl ?_
   show GO p e below T366 (mkF m 134 (la17 p0 p1 p2 p3 p4 p5 uw xl r_183 (4 : Int32) pp xx b357) [(.int p3), (.int xx), (.int pp), (.int uw), (.ref r_183), (.int 1), (.int 1), (.ref b357)]) _
   refine XS.iload X366.here hx rfl (hb hby at_134) rfl ?_
   show GO p e below T366 (mkF m 136 (la17 p0 p1 p2 p3 p4 p5 uw xl r_183 (4 : Int32) pp xx b357) [(.int p4), (.int p3), (.int xx), (.int pp), (.int uw), (.ref r_183), (.int 1), (.int 1), (.ref b357)]) _
   refine XS.iload X366.here hx rfl (hb hby at_136) rfl ?_
   show GO p e below T366 (mkF m 138 (la17 p0 p1 p2 p3 p4 p5 uw xl r_183 (4 : Int32) pp xx b357) [(.int p5), (.int p4), (.int p3), (.int xx), (.int pp), (.int uw), (.ref r_183), (.int 1), (.int 1), (.ref b357)]) _
   refine st370 _ ?_
   show GO p e below T370 (mkF m 141 (la17 p0 p1 p2 p3 p4 p5 uw xl r_183 (4 : Int32) pp xx b357) [(.int cv_370), (.int 1), (.ref b357)]) _
   refine st378 _ ?_
   show GO p e below T378 (mkF m 142 (la17 p0 p1 p2 p3 p4 p5 uw xl r_183 (4 : Int32) pp xx b357) []) _
   refine XS.iload X378.here hx rfl (hb hby at_142) rfl ?_
   show GO p e below T378 (mkF m 144 (la17 p0 p1 p2 p3 p4 p5 uw xl r_183 (4 : Int32) pp xx b357) [(.int 4)]) _
   refine XS.iconst X378.here hx rfl (hb hby at_144) ?_
   show GO p e below T378 (mkF m 145 (la17 p0 p1 p2 p3 p4 p5 uw xl r_183 (4 : Int32) pp xx b357) [(.int 2), (.int 4)]) _
   refine XS.icmpNo X378.here hx rfl (hb hby at_145) rfl (tlt ((by decide) : (2 : Int32) < (4 : Int32))).2.2.2 ?_
   show GO p e below T378 (mkF m 148 (la17 p0 p1 p2 p3 p4 p5 uw xl r_183 (4 : Int32) pp xx b357) []) _
   refine XS.aload X378.here hx rfl (hb hby at_148) rfl rfl ?_
   show GO p e below T378 (mkF m 150 (la17 p0 p1 p2 p3 p4 p5 uw xl r_183 (4 : Int32) pp xx b357) [(.ref b357)]) _
   refine XS.iconst X378.here hx rfl (hb hby at_150) ?_
   show GO p e below T378 (mkF m 151 (la17 p0 p1 p2 p3 p4 p5 uw xl r_183 (4 : Int32) pp xx b357) [(.int 2), (.ref b357)]) _
   refine XS.iconst X378.here hx rfl (hb hby at_151) ?_
   show GO p e below T378 (mkF m 152 (la17 p0 p1 p2 p3 p4 p5 uw xl r_183 (4 : Int32) pp xx b357) [(.int 2), (.int 2), (.ref b357)]) _
   refine XS.aload X378.here hx rfl (hb hby at_152) rfl rfl ?_
   show GO p e below T378 (mkF m 154 (la17 p0 p1 p2 p3 p4 p5 uw xl r_183 (4 : Int32) pp xx b357) [(.ref r_183), (.int 2), (.int 2), (.ref b357)]) _
   refine XS.iload X378.here hx rfl (hb hby at_154) rfl ?_
   show GO p e below T378 (mkF m 156 (la17 p0 p1 p2 p3 p4 p5 uw xl r_183 (4 : Int32) pp xx b357) [(.int uw), (.ref r_183), (.int 2), (.int 2), (.ref b357)]) _
   refine XS.iload X378.here hx rfl (hb hby at_156) rfl ?_
   show GO p e below T378 (mkF m 158 (la17 p0 p1 p2 p3 p4 p5 uw xl r_183 (4 : Int32) pp xx b357) [(.int pp), (.int uw), (.ref r_183), (.int 2), (.int 2), (.ref b357)]) _
   refine XS.iload X378.here hx rfl (hb hby at_158) rfl ?_
   show GO p e below T378 (mkF m 160 (la17 p0 p1 p2 p3 p4 p5 uw xl r_183 (4 : Int32) pp xx b357) [(.int xx), (.int pp), (.int uw), (.ref r_183), (.int 2), (.int 2), (.ref b357)]) _
   refine XS.iloadN X378.here hx rfl (hb hby at_160) rfl ?_
   show GO p e below T378 (mkF m 161 (la17 p0 p1 p2 p3 p4 p5 uw xl r_183 (4 : Int32) pp xx b357) [(.int p3), (.int xx), (.int pp), (.int uw), (.ref r_183), (.int 2), (.int 2), (.ref b357)]) _
   refine XS.iload X378.here hx rfl (hb hby at_161) rfl ?_
   show GO p e below T378 (mkF m 163 (la17 p0 p1 p2 p3 p4 p5 uw xl r_183 (4 : Int32) pp xx b357) [(.int p4), (.int p3), (.int xx), (.int pp), (.int uw), (.ref r_183), (.int 2), (.int 2), (.ref b357)]) _
   refine XS.iload X378.here hx rfl (hb hby at_163) rfl ?_
   show GO p e below T378 (mkF m 165 (la17 p0 p1 p2 p3 p4 p5 uw xl r_183 (4 : Int32) pp xx b357) [(.int p5), (.int p4), (.int p3), (.int xx), (.int pp), (.int uw), (.ref r_183), (.int 2), (.int 2), (.ref b357)]) _
   refine st380 _ ?_
   show GO p e below T380 (mkF m 168 (la17 p0 p1 p2 p3 p4 p5 uw xl r_183 (4 : Int32) pp xx b357) [(.int cv_380), (.int 2), (.ref b357)]) _
   refine st387 _ ?_
   show GO p e below T387 (mkF m 169 (la17 p0 p1 p2 p3 p4 p5 uw xl r_183 (4 : Int32) pp xx b357) []) _
   refine XS.iload X387.here hx rfl (hb hby at_169) rfl ?_
   show GO p e below T387 (mkF m 171 (la17 p0 p1 p2 p3 p4 p5 uw xl r_183 (4 : Int32) pp xx b357) [(.int 4)]) _
   refine XS.iconst X387.here hx rfl (hb hby at_171) ?_
   show GO p e below T387 (mkF m 172 (la17 p0 p1 p2 p3 p4 p5 uw xl r_183 (4 : Int32) pp xx b357) [(.int 3), (.int 4)]) _
   refine XS.icmpNo X387.here hx rfl (hb hby at_172) rfl (tlt ((by decide) : (3 : Int32) < (4 : Int32))).2.2.2 ?_
   show GO p e below T387 (mkF m 175 (la17 p0 p1 p2 p3 p4 p5 uw xl r_183 (4 : Int32) pp xx b357) []) _
   refine XS.aload X387.here hx rfl (hb hby at_175) rfl rfl ?_
   show GO p e below T387 (mkF m 177 (la17 p0 p1 p2 p3 p4 p5 uw xl r_183 (4 : Int32) pp xx b357) [(.ref b357)]) _
   refine XS.iconst X387.here hx rfl (hb hby at_177) ?_
   show GO p e below T387 (mkF m 178 (la17 p0 p1 p2 p3 p4 p5 uw xl r_183 (4 : Int32) pp xx b357) [(.int 3), (.ref b357)]) _
   refine XS.iconst X387.here hx rfl (hb hby at_178) ?_
   show GO p e below T387 (mkF m 179 (la17 p0 p1 p2 p3 p4 p5 uw xl r_183 (4 : Int32) pp xx b357) [(.int 3), (.int 3), (.ref b357)]) _
   refine XS.aload X387.here hx rfl (hb hby at_179) rfl rfl ?_
   show GO p e below T387 (mkF m 181 (la17 p0 p1 p2 p3 p4 p5 uw xl r_183 (4 : Int32) pp xx b357) [(.ref r_183), (.int 3), (.int 3), (.ref b357)]) _
   refine XS.iload X387.here hx rfl (hb hby at_181) rfl ?_
   show GO p e below T387 (mkF m 183 (la17 p0 p1 p2 p3 p4 p5 uw xl r_183 (4 : Int32) pp xx b357) [(.int uw), (.ref r_183), (.int 3), (.int 3), (.ref b357)]) _
   refine XS.iload X387.here hx rfl (hb hby at_183) rfl ?_
   show GO p e below T387 (mkF m 185 (la17 p0 p1 p2 p3 p4 p5 uw xl r_183 (4 : Int32) pp xx b357) [(.int pp), (.int uw), (.ref r_183), (.int 3), (.int 3), (.ref b357)]) _
   refine XS.iload X387.here hx rfl (hb hby at_185) rfl ?_
   show GO p e below T387 (mkF m 187 (la17 p0 p1 p2 p3 p4 p5 uw xl r_183 (4 : Int32) pp xx b357) [(.int xx), (.int pp), (.int uw), (.ref r_183), (.int 3), (.int 3), (.ref b357)]) _
   refine XS.iloadN X387.here hx rfl (hb hby at_187) rfl ?_
   show GO p e below T387 (mkF m 188 (la17 p0 p1 p2 p3 p4 p5 uw xl r_183 (4 : Int32) pp xx b357) [(.int p3), (.int xx), (.int pp), (.int uw), (.ref r_183), (.int 3), (.int 3), (.ref b357)]) _
   refine XS.iload X387.here hx rfl (hb hby at_188) rfl ?_
   show GO p e below T387 (mkF m 190 (la17 p0 p1 p2 p3 p4 p5 uw xl r_183 (4 : Int32) pp xx b357) [(.int p4), (.int p3), (.int xx), (.int pp), (.int uw), (.ref r_183), (.int 3), (.int 3), (.ref b357)]) _
   refine XS.iload X387.here hx rfl (hb hby at_190) rfl ?_
   show GO p e below T387 (mkF m 192 (la17 p0 p1 p2 p3 p4 p5 uw xl r_183 (4 : Int32) pp xx b357) [(.int p5), (.int p4), (.int p3), (.int xx), (.int pp), (.int uw), (.ref r_183), (.int 3), (.int 3), (.ref b357)]) _
   refine st389 _ ?_
   show GO p e below T389 (mkF m 195 (la17 p0 p1 p2 p3 p4 p5 uw xl r_183 (4 : Int32) pp xx b357) [(.int cv_389), (.int 3), (.ref b357)]) _
   refine st396 _ ?_
   show GO p e below T396 (mkF m 196 (la17 p0 p1 p2 p3 p4 p5 uw xl r_183 (4 : Int32) pp xx b357) []) _
   refine XS.iload X396.here hx rfl (hb hby at_196) rfl ?_
   show GO p e below T396 (mkF m 198 (la17 p0 p1 p2 p3 p4 p5 uw xl r_183 (4 : Int32) pp xx b357) [(.int 4)]) _
   refine XS.iconst X396.here hx rfl (hb hby at_198) ?_
   show GO p e below T396 (mkF m 199 (la17 p0 p1 p2 p3 p4 p5 uw xl r_183 (4 : Int32) pp xx b357) [(.int 4), (.int 4)]) _
   refine XS.icmpYes X396.here hx rfl (pc0 := 199) (pc' := 223) rfl (hb hby at_199) rfl (flt ((by decide) : ¬ ((4 : Int32) < (4 : Int32)))).2.2.2 (by decide) (by decide) ?_
   show GO p e below T396 (mkF m 223 (la17 p0 p1 p2 p3 p4 p5 uw xl r_183 (4 : Int32) pp xx b357) []) _
   refine XS.iload X396.here hx rfl (hb hby at_223) rfl ?_
   show GO p e below T396 (mkF m 225 (la17 p0 p1 p2 p3 p4 p5 uw xl r_183 (4 : Int32) pp xx b357) [(.int 4)]) _
   refine XS.iconst X396.here hx rfl (hb hby at_225) ?_
   show GO p e below T396 (mkF m 226 (la17 p0 p1 p2 p3 p4 p5 uw xl r_183 (4 : Int32) pp xx b357) [(.int 5), (.int 4)]) _
   refine XS.icmpYes X396.here hx rfl (pc0 := 226) (pc' := 250) rfl (hb hby at_226) rfl (flt ((by decide) : ¬ ((5 : Int32) < (4 : Int32)))).2.2.2 (by decide) (by decide) ?_
   show GO p e below T396 (mkF m 250 (la17 p0 p1 p2 p3 p4 p5 uw xl r_183 (4 : Int32) pp xx b357) []) _
   refine XS.iload X396.here hx rfl (hb hby at_250) rfl ?_
   show GO p e below T396 (mkF m 252 (la17 p0 p1 p2 p3 p4 p5 uw xl r_183 (4 : Int32) pp xx b357) [(.int 4)]) _
   refine XS.bipush X396.here hx rfl (hb hby at_252) ?_
   show GO p e below T396 (mkF m 254 (la17 p0 p1 p2 p3 p4 p5 uw xl r_183 (4 : Int32) pp xx b357) [(.int 6), (.int 4)]) _
   refine XS.icmpYes X396.here hx rfl (pc0 := 254) (pc' := 280) rfl (hb hby at_254) rfl (flt ((by decide) : ¬ ((6 : Int32) < (4 : Int32)))).2.2.2 (by decide) (by decide) ?_
   show GO p e below T396 (mkF m 280 (la17 p0 p1 p2 p3 p4 p5 uw xl r_183 (4 : Int32) pp xx b357) []) _
   refine XS.iload X396.here hx rfl (hb hby at_280) rfl ?_
   show GO p e below T396 (mkF m 282 (la17 p0 p1 p2 p3 p4 p5 uw xl r_183 (4 : Int32) pp xx b357) [(.int 4)]) _
   refine XS.bipush X396.here hx rfl (hb hby at_282) ?_
   show GO p e below T396 (mkF m 284 (la17 p0 p1 p2 p3 p4 p5 uw xl r_183 (4 : Int32) pp xx b357) [(.int 7), (.int 4)]) _
   refine XS.icmpYes X396.here hx rfl (pc0 := 284) (pc' := 310) rfl (hb hby at_284) rfl (flt ((by decide) : ¬ ((7 : Int32) < (4 : Int32)))).2.2.2 (by decide) (by decide) ?_
   show GO p e below T396 (mkF m 310 (la17 p0 p1 p2 p3 p4 p5 uw xl r_183 (4 : Int32) pp xx b357) []) _
   refine XS.iload X396.here hx rfl (hb hby at_310) rfl ?_
   show GO p e below T396 (mkF m 312 (la17 p0 p1 p2 p3 p4 p5 uw xl r_183 (4 : Int32) pp xx b357) [(.int 4)]) _
   refine XS.bipush X396.here hx rfl (hb hby at_312) ?_
   show GO p e below T396 (mkF m 314 (la17 p0 p1 p2 p3 p4 p5 uw xl r_183 (4 : Int32) pp xx b357) [(.int 8), (.int 4)]) _
   refine XS.icmpYes X396.here hx rfl (pc0 := 314) (pc' := 340) rfl (hb hby at_314) rfl (flt ((by decide) : ¬ ((8 : Int32) < (4 : Int32)))).2.2.2 (by decide) (by decide) ?_
   show GO p e below T396 (mkF m 340 (la17 p0 p1 p2 p3 p4 p5 uw xl r_183 (4 : Int32) pp xx b357) []) _
   refine XS.iload X396.here hx rfl (hb hby at_340) rfl ?_
   show GO p e below T396 (mkF m 342 (la17 p0 p1 p2 p3 p4 p5 uw xl r_183 (4 : Int32) pp xx b357) [(.int 4)]) _
   refine XS.bipush X396.here hx rfl (hb hby at_342) ?_
   show GO p e below T396 (mkF m 344 (la17 p0 p1 p2 p3 p4 p5 uw xl r_183 (4 : Int32) pp xx b357) [(.int 9), (.int 4)]) _
   refine XS.icmpYes X396.here hx rfl (pc0 := 344) (pc' := 370) rfl (hb hby at_344) rfl (flt ((by decide) : ¬ ((9 : Int32) < (4 : Int32)))).2.2.2 (by decide) (by decide) ?_
   show GO p e below T396 (mkF m 370 (la17 p0 p1 p2 p3 p4 p5 uw xl r_183 (4 : Int32) pp xx b357) []) _
   refine st399 _ ?_
   show GO p e below T399 (mkF m 373 (la17 p0 p1 p2 p3 p4 p5 uw xl r_183 (4 : Int32) pp xx b357) [(.ref b399)]) _
   refine XS.dup X399.here hx rfl (hb hby at_373) rfl rfl ?_
   show GO p e below T399 (mkF m 374 (la17 p0 p1 p2 p3 p4 p5 uw xl r_183 (4 : Int32) pp xx b357) [(.ref b399), (.ref b399)]) _
   refine XS.aload X399.here hx rfl (hb hby at_374) rfl rfl ?_
   show GO p e below T399 (mkF m 376 (la17 p0 p1 p2 p3 p4 p5 uw xl r_183 (4 : Int32) pp xx b357) [(.ref b357), (.ref b399), (.ref b399)]) _
   refine st406.trans ?_
   show GO p e below T406 (mkF m 379 (la17 p0 p1 p2 p3 p4 p5 uw xl r_183 (4 : Int32) pp xx b357) [(.ref b399)]) _
   refine XS.astore X406.here hx rfl (hb hby at_379) rfl rfl (l' := (la18 p0 p1 p2 p3 p4 p5 uw xl r_183 (4 : Int32) pp xx b357 b399)) rfl ?_
   show GO p e below T406 (mkF m 381 (la18 p0 p1 p2 p3 p4 p5 uw xl r_183 (4 : Int32) pp xx b357 b399) []) _
   refine XS.aload X406.here hx rfl (hb hby at_381) rfl rfl ?_
   show GO p e below T406 (mkF m 383 (la18 p0 p1 p2 p3 p4 p5 uw xl r_183 (4 : Int32) pp xx b357 b399) [(.ref b399)]) _
   refine st410 _ ?_
   show GO p e below T410 (mkF m 386 (la18 p0 p1 p2 p3 p4 p5 uw xl r_183 (4 : Int32) pp xx b357 b399) [(own_pick ([cv_359, cv_370, cv_380, cv_389] : List Int32) u0 u1 u2 u3)]) _
   refine XS.aload X410.here hx rfl (hb hby at_386) rfl rfl ?_
   show GO p e below T410 (mkF m 388 (la18 p0 p1 p2 p3 p4 p5 uw xl r_183 (4 : Int32) pp xx b357 b399) [(.ref b399), (own_pick ([cv_359, cv_370, cv_380, cv_389] : List Int32) u0 u1 u2 u3)]) _
   refine st414.trans ?_
   show GO p e below T414 (mkF m 391 (la18 p0 p1 p2 p3 p4 p5 uw xl r_183 (4 : Int32) pp xx b357 b399) [(own_pick ([cv_359, cv_370, cv_380, cv_389] : List Int32) u0 u1 u2 u3), (own_pick ([cv_359, cv_370, cv_380, cv_389] : List Int32) u0 u1 u2 u3)]) _
   refine Jvm.RoadKit.acmp (g := (mkF m 391 (la18 p0 p1 p2 p3 p4 p5 uw xl r_183 (4 : Int32) pp xx b357 b399) [(own_pick ([cv_359, cv_370, cv_380, cv_389] : List Int32) u0 u1 u2 u3), (own_pick ([cv_359, cv_370, cv_380, cv_389] : List Int32) u0 u1 u2 u3)])) X414 hx rfl (own_pickref _ _ _ _ _) (own_pickref _ _ _ _ _) (pc0 := 391) (pc' := 394) (same := true) rfl (hb hby at_391) rfl (decide_eq_true rfl) (by decide) (by decide) ?_
   show GO p e below T414 (mkF m 394 (la18 p0 p1 p2 p3 p4 p5 uw xl r_183 (4 : Int32) pp xx b357 b399) []) _
   refine XS.iconst X414.here hx rfl (hb hby at_394) ?_
   show GO p e below T414 (mkF m 395 (la18 p0 p1 p2 p3 p4 p5 uw xl r_183 (4 : Int32) pp xx b357 b399) [(.int 1)]) _
   refine XS.goto X414.here hx rfl (pc0 := 395) (pc' := 399) rfl (hb hby at_395) (by decide) (by decide) ?_
   show GO p e below T414 (mkF m 399 (la18 p0 p1 p2 p3 p4 p5 uw xl r_183 (4 : Int32) pp xx b357 b399) [(.int 1)]) _
   exact retN X414 hx (t := .boolean) Bd.returns (by simp) (hb hby at_399) hr
  ·show Qrm0 Z p0 p1 p2 p3 p4 p5 z0 f0 va u0 u1 u2 u3 w0 w1 w2 w3 y0 y1 y2 y3 kV b0 b1 b2 b3 h0 n0 _ T414.heap _
   rw [e414]
   exact ⟨rfl, N414⟩
  ·show CHr Z EL1 s.vm s.heap T414.vm T414.heap
   rw [hh, e414]
   exact CE
 ·obtain ⟨T421, h421, k421, X421, e421, E421, A421, st421⟩ := newP X186 hx hZ183 (wd hw 13 rfl) e186 (g := (mkF m 85 (la16 p0 p1 p2 p3 p4 p5 uw xl r_183 (5 : Int32) pp xx) [(.int 5)])) rfl (hb hby at_85) rfl (by decide) (cap := 5) (by decide) (by decide) (by decide) (by decide)
  obtain ⟨b421, g421⟩ : ∃ z, z = h183.size := ⟨_, rfl⟩
  rw [← g421] at A421 st421
  have C422 : CHr Z EL1 s.vm h0 T183.vm h421 := C184.trans (CHr.ext E421 C184.1)
  have sz421 : h183.size ≤ h421.size := E421.1
  have nz421 := Nat.le_trans nz183 sz421
  have lt421 := ltA A421.lt
  have V421 : Arv Z h421 b421 k421 .char (5 : Int32) [(.int 0), (.int 0), (.int 0), (.int 0), (.int 0)] (.int 0) := (Arv.new A421 (by decide)).pad (pad_rep [] (.int 0) 5)
  -- pc 111: KindNamedPinLaw.at by rm_at
  have f424 : Old Z n0 h421 := ((O0.keep K183 all0).ext E421)
  have f425 : Exa Z h421 r_183 kS0 := (p183_0.ext E421)
  have f426 : Fld Z h421 r_183 kS0 "coder" "B" (.int 0) := (p183_1.ext E421)
  have f427 : Fld Z h421 r_183 kS0 "value" "[B" (.ref t_183) := (p183_2.ext E421)
  have f428 : Arv Z h421 t_183 k_183 .byte N_183 vs_183 (.int 0) := (p183_3.ext E421)
  obtain ⟨_, _, ⟨T423, L423, k423, n423⟩, -, X423, ⟨Lc423, hQ423, l423, y423, z423⟩, st423⟩ := Jvm.LawKit.callS X421 hx (y := (⟨kS1, "at", kS3⟩ : MethodName)) hown183 (mvT hZ183 (wd hw 14 rfl)) (mvT hZ183 (wd hw 15 rfl)) (mvT hZ183 (wd hw 2 rfl)) (mvT hZ183 (wd hw 16 rfl)) (by decide) (backOf (W := 2) (rm_at l Z a0 hw [] (0 : Int32) uw pp xx p3 p4 p5 r_183 t_183 k_183 N_183 vs_183 cs_183 z0 f0 h421 n0 nz421 f424 f425 f426 f427 f428 (by first | assumption | decide | omega) (by first | assumption | decide | omega) (by first | assumption | decide | omega) (by first | assumption | decide | omega) r183_0 r183_1 r183_2 r183_3 (by decide) rxx qxx) hZ183 (wd hw 16 rfl) (wd hw 2 rfl) (by decide) (by decide)) (g := (mkF m 111 (la17 p0 p1 p2 p3 p4 p5 uw xl r_183 (5 : Int32) pp xx b421) [(.int p5), (.int p4), (.int p3), (.int xx), (.int pp), (.int uw), (.ref r_183), (.int 0), (.int 0), (.ref b421)])) rfl (by rw [hml]; rfl) (argsL := [(.int 0), (.ref r_183), (.int uw), (.int pp), (.int xx), (.int p3), (.int p4), (.int p5)]) (rest := [(.int 0), (.ref b421)]) (lenOf pd_9 rfl) rfl (wz rfl) (hb hby at_111) (fun _ _ => ⟨rfl, e421, (by decide : 3 + 0 ≤ _), (by decide : 45 + 0 ≤ _)⟩)
  dsimp only [Pt.U, Pt.locs, Pt.cells, Pt.slots] at X423 l423 y423 z423 st423 hQ423
  rw [l423, y423, z423] at X423
  obtain ⟨cv_423, rfl, N423q, e423, r423_0, r423_1⟩ := hQ423
  have N423 := Fr.app N186 N423q
  obtain ⟨cl429, Ar429, q429, S429, M429, H429, G429⟩ := id V421
  have hin429 : ¬ ((0 : Int32) < 0 ∨ cl429.slots.size ≤ ((0 : Int32)).toNatClampNeg) := inb_of S429 ⟨by decide, by decide⟩
  obtain ⟨T430, h430, X430, e430, W430, st430⟩ := stC X423 hx hZ183 e423 Ar429 (j := (0 : Int32)) hin429 (g := (mkF m 114 (la17 p0 p1 p2 p3 p4 p5 uw xl r_183 (5 : Int32) pp xx b421) [(.int cv_423), (.int 0), (.ref b421)])) rfl rfl (hb hby at_114)
  have ge431 : n0 ≤ b421 := by omega
  have N430 := Fr.snoc X430 N423 ge431
  have ne432 : b421 ≠ r_183 := Ne.symm (Exa.neArv f425 V421 (wd hw 6 rfl))
  have C433 : CHr Z EL1 s.vm h0 T183.vm h430 := C422.trans (CHr.wr W430 (Safe.arv hZ183.alike V421 (by decide)) C422.1)
  have sz430 : h421.size ≤ h430.size := Nat.le_of_eq W430.size.symm
  have nz430 := Nat.le_trans nz421 sz430
  have V430 : Arv Z h430 b421 k421 .char (5 : Int32) [(.int (nar .char cv_423)), (.int 0), (.int 0), (.int 0), (.int 0)] (.int 0) := Arv.set Ar429 q429 S429 M429 H429 G429 (fits_nar_char _) W430 0 rfl (Nat.le_of_ble_eq_true rfl)
  -- pc 138: KindNamedPinLaw.at by rm_at
  have f435 : Old Z n0 h430 := (f424.wr W430 ge431)
  have f436 : Exa Z h430 r_183 kS0 := (f425.wr W430)
  have f437 : Fld Z h430 r_183 kS0 "coder" "B" (.int 0) := (f426.other W430 (Or.inl (Ne.symm ne432)))
  have f438 : Fld Z h430 r_183 kS0 "value" "[B" (.ref t_183) := (f427.other W430 (Or.inl (Ne.symm ne432)))
  have ne439 : t_183 ≠ b421 := neN (by omega)
  have f440 : Arv Z h430 t_183 k_183 .byte N_183 vs_183 (.int 0) := (f428.other W430 ne439)
  obtain ⟨_, _, ⟨T434, L434, k434, n434⟩, -, X434, ⟨Lc434, hQ434, l434, y434, z434⟩, st434⟩ := Jvm.LawKit.callS X430 hx (y := (⟨kS1, "at", kS3⟩ : MethodName)) hown183 (mvT hZ183 (wd hw 14 rfl)) (mvT hZ183 (wd hw 15 rfl)) (mvT hZ183 (wd hw 2 rfl)) (mvT hZ183 (wd hw 16 rfl)) (by decide) (backOf (W := 2) (rm_at l Z a0 hw [] (1 : Int32) uw pp xx p3 p4 p5 r_183 t_183 k_183 N_183 vs_183 cs_183 z0 f0 h430 n0 nz430 f435 f436 f437 f438 f440 (by first | assumption | decide | omega) (by first | assumption | decide | omega) (by first | assumption | decide | omega) (by first | assumption | decide | omega) r183_0 r183_1 r183_2 r183_3 (by decide) rxx qxx) hZ183 (wd hw 16 rfl) (wd hw 2 rfl) (by decide) (by decide)) (g := (mkF m 138 (la17 p0 p1 p2 p3 p4 p5 uw xl r_183 (5 : Int32) pp xx b421) [(.int p5), (.int p4), (.int p3), (.int xx), (.int pp), (.int uw), (.ref r_183), (.int 1), (.int 1), (.ref b421)])) rfl (by rw [hml]; rfl) (argsL := [(.int 1), (.ref r_183), (.int uw), (.int pp), (.int xx), (.int p3), (.int p4), (.int p5)]) (rest := [(.int 1), (.ref b421)]) (lenOf pd_9 rfl) rfl (wz rfl) (hb hby at_138) (fun _ _ => ⟨rfl, e430, (by decide : 3 + 0 ≤ _), (by decide : 45 + 0 ≤ _)⟩)
  dsimp only [Pt.U, Pt.locs, Pt.cells, Pt.slots] at X434 l434 y434 z434 st434 hQ434
  rw [l434, y434, z434] at X434
  obtain ⟨cv_434, rfl, N434q, e434, r434_0, r434_1⟩ := hQ434
  have N434 := Fr.app N430 N434q
  obtain ⟨cl441, Ar441, q441, S441, M441, H441, G441⟩ := id V430
  have hin441 : ¬ ((1 : Int32) < 0 ∨ cl441.slots.size ≤ ((1 : Int32)).toNatClampNeg) := inb_of S441 ⟨by decide, by decide⟩
  obtain ⟨T442, h442, X442, e442, W442, st442⟩ := stC X434 hx hZ183 e434 Ar441 (j := (1 : Int32)) hin441 (g := (mkF m 141 (la17 p0 p1 p2 p3 p4 p5 uw xl r_183 (5 : Int32) pp xx b421) [(.int cv_434), (.int 1), (.ref b421)])) rfl rfl (hb hby at_141)
  have N442 := Fr.snoc X442 N434 ge431
  have C443 : CHr Z EL1 s.vm h0 T183.vm h442 := C433.trans (CHr.wr W442 (Safe.arv hZ183.alike V430 (by decide)) C433.1)
  have sz442 : h430.size ≤ h442.size := Nat.le_of_eq W442.size.symm
  have nz442 := Nat.le_trans nz430 sz442
  have V442 : Arv Z h442 b421 k421 .char (5 : Int32) [(.int (nar .char cv_423)), (.int (nar .char cv_434)), (.int 0), (.int 0), (.int 0)] (.int 0) := Arv.set Ar441 q441 S441 M441 H441 G441 (fits_nar_char _) W442 1 rfl (Nat.le_of_ble_eq_true rfl)
  -- pc 165: KindNamedPinLaw.at by rm_at
  have f445 : Old Z n0 h442 := (f435.wr W442 ge431)
  have f446 : Exa Z h442 r_183 kS0 := (f436.wr W442)
  have f447 : Fld Z h442 r_183 kS0 "coder" "B" (.int 0) := (f437.other W442 (Or.inl (Ne.symm ne432)))
  have f448 : Fld Z h442 r_183 kS0 "value" "[B" (.ref t_183) := (f438.other W442 (Or.inl (Ne.symm ne432)))
  have f449 : Arv Z h442 t_183 k_183 .byte N_183 vs_183 (.int 0) := (f440.other W442 ne439)
  obtain ⟨_, _, ⟨T444, L444, k444, n444⟩, -, X444, ⟨Lc444, hQ444, l444, y444, z444⟩, st444⟩ := Jvm.LawKit.callS X442 hx (y := (⟨kS1, "at", kS3⟩ : MethodName)) hown183 (mvT hZ183 (wd hw 14 rfl)) (mvT hZ183 (wd hw 15 rfl)) (mvT hZ183 (wd hw 2 rfl)) (mvT hZ183 (wd hw 16 rfl)) (by decide) (backOf (W := 2) (rm_at l Z a0 hw [] (2 : Int32) uw pp xx p3 p4 p5 r_183 t_183 k_183 N_183 vs_183 cs_183 z0 f0 h442 n0 nz442 f445 f446 f447 f448 f449 (by first | assumption | decide | omega) (by first | assumption | decide | omega) (by first | assumption | decide | omega) (by first | assumption | decide | omega) r183_0 r183_1 r183_2 r183_3 (by decide) rxx qxx) hZ183 (wd hw 16 rfl) (wd hw 2 rfl) (by decide) (by decide)) (g := (mkF m 165 (la17 p0 p1 p2 p3 p4 p5 uw xl r_183 (5 : Int32) pp xx b421) [(.int p5), (.int p4), (.int p3), (.int xx), (.int pp), (.int uw), (.ref r_183), (.int 2), (.int 2), (.ref b421)])) rfl (by rw [hml]; rfl) (argsL := [(.int 2), (.ref r_183), (.int uw), (.int pp), (.int xx), (.int p3), (.int p4), (.int p5)]) (rest := [(.int 2), (.ref b421)]) (lenOf pd_9 rfl) rfl (wz rfl) (hb hby at_165) (fun _ _ => ⟨rfl, e442, (by decide : 3 + 0 ≤ _), (by decide : 45 + 0 ≤ _)⟩)
  dsimp only [Pt.U, Pt.locs, Pt.cells, Pt.slots] at X444 l444 y444 z444 st444 hQ444
  rw [l444, y444, z444] at X444
  obtain ⟨cv_444, rfl, N444q, e444, r444_0, r444_1⟩ := hQ444
  have N444 := Fr.app N442 N444q
  obtain ⟨cl450, Ar450, q450, S450, M450, H450, G450⟩ := id V442
  have hin450 : ¬ ((2 : Int32) < 0 ∨ cl450.slots.size ≤ ((2 : Int32)).toNatClampNeg) := inb_of S450 ⟨by decide, by decide⟩
  obtain ⟨T451, h451, X451, e451, W451, st451⟩ := stC X444 hx hZ183 e444 Ar450 (j := (2 : Int32)) hin450 (g := (mkF m 168 (la17 p0 p1 p2 p3 p4 p5 uw xl r_183 (5 : Int32) pp xx b421) [(.int cv_444), (.int 2), (.ref b421)])) rfl rfl (hb hby at_168)
  have N451 := Fr.snoc X451 N444 ge431
  have C452 : CHr Z EL1 s.vm h0 T183.vm h451 := C443.trans (CHr.wr W451 (Safe.arv hZ183.alike V442 (by decide)) C443.1)
  have sz451 : h442.size ≤ h451.size := Nat.le_of_eq W451.size.symm
  have nz451 := Nat.le_trans nz442 sz451
  have V451 : Arv Z h451 b421 k421 .char (5 : Int32) [(.int (nar .char cv_423)), (.int (nar .char cv_434)), (.int (nar .char cv_444)), (.int 0), (.int 0)] (.int 0) := Arv.set Ar450 q450 S450 M450 H450 G450 (fits_nar_char _) W451 2 rfl (Nat.le_of_ble_eq_true rfl)
  -- pc 192: KindNamedPinLaw.at by rm_at
  have f454 : Old Z n0 h451 := (f445.wr W451 ge431)
  have f455 : Exa Z h451 r_183 kS0 := (f446.wr W451)
  have f456 : Fld Z h451 r_183 kS0 "coder" "B" (.int 0) := (f447.other W451 (Or.inl (Ne.symm ne432)))
  have f457 : Fld Z h451 r_183 kS0 "value" "[B" (.ref t_183) := (f448.other W451 (Or.inl (Ne.symm ne432)))
  have f458 : Arv Z h451 t_183 k_183 .byte N_183 vs_183 (.int 0) := (f449.other W451 ne439)
  obtain ⟨_, _, ⟨T453, L453, k453, n453⟩, -, X453, ⟨Lc453, hQ453, l453, y453, z453⟩, st453⟩ := Jvm.LawKit.callS X451 hx (y := (⟨kS1, "at", kS3⟩ : MethodName)) hown183 (mvT hZ183 (wd hw 14 rfl)) (mvT hZ183 (wd hw 15 rfl)) (mvT hZ183 (wd hw 2 rfl)) (mvT hZ183 (wd hw 16 rfl)) (by decide) (backOf (W := 2) (rm_at l Z a0 hw [] (3 : Int32) uw pp xx p3 p4 p5 r_183 t_183 k_183 N_183 vs_183 cs_183 z0 f0 h451 n0 nz451 f454 f455 f456 f457 f458 (by first | assumption | decide | omega) (by first | assumption | decide | omega) (by first | assumption | decide | omega) (by first | assumption | decide | omega) r183_0 r183_1 r183_2 r183_3 (by decide) rxx qxx) hZ183 (wd hw 16 rfl) (wd hw 2 rfl) (by decide) (by decide)) (g := (mkF m 192 (la17 p0 p1 p2 p3 p4 p5 uw xl r_183 (5 : Int32) pp xx b421) [(.int p5), (.int p4), (.int p3), (.int xx), (.int pp), (.int uw), (.ref r_183), (.int 3), (.int 3), (.ref b421)])) rfl (by rw [hml]; rfl) (argsL := [(.int 3), (.ref r_183), (.int uw), (.int pp), (.int xx), (.int p3), (.int p4), (.int p5)]) (rest := [(.int 3), (.ref b421)]) (lenOf pd_9 rfl) rfl (wz rfl) (hb hby at_192) (fun _ _ => ⟨rfl, e451, (by decide : 3 + 0 ≤ _), (by decide : 45 + 0 ≤ _)⟩)
  dsimp only [Pt.U, Pt.locs, Pt.cells, Pt.slots] at X453 l453 y453 z453 st453 hQ453
  rw [l453, y453, z453] at X453
  obtain ⟨cv_453, rfl, N453q, e453, r453_0, r453_1⟩ := hQ453
  have N453 := Fr.app N451 N453q
  obtain ⟨cl459, Ar459, q459, S459, M459, H459, G459⟩ := id V451
  have hin459 : ¬ ((3 : Int32) < 0 ∨ cl459.slots.size ≤ ((3 : Int32)).toNatClampNeg) := inb_of S459 ⟨by decide, by decide⟩
  obtain ⟨T460, h460, X460, e460, W460, st460⟩ := stC X453 hx hZ183 e453 Ar459 (j := (3 : Int32)) hin459 (g := (mkF m 195 (la17 p0 p1 p2 p3 p4 p5 uw xl r_183 (5 : Int32) pp xx b421) [(.int cv_453), (.int 3), (.ref b421)])) rfl rfl (hb hby at_195)
  have N460 := Fr.snoc X460 N453 ge431
  have C461 : CHr Z EL1 s.vm h0 T183.vm h460 := C452.trans (CHr.wr W460 (Safe.arv hZ183.alike V451 (by decide)) C452.1)
  have sz460 : h451.size ≤ h460.size := Nat.le_of_eq W460.size.symm
  have nz460 := Nat.le_trans nz451 sz460
  have V460 : Arv Z h460 b421 k421 .char (5 : Int32) [(.int (nar .char cv_423)), (.int (nar .char cv_434)), (.int (nar .char cv_444)), (.int (nar .char cv_453)), (.int 0)] (.int 0) := Arv.set Ar459 q459 S459 M459 H459 G459 (fits_nar_char _) W460 3 rfl (Nat.le_of_ble_eq_true rfl)
  -- pc 219: KindNamedPinLaw.at by rm_at
  have f463 : Old Z n0 h460 := (f454.wr W460 ge431)
  have f464 : Exa Z h460 r_183 kS0 := (f455.wr W460)
  have f465 : Fld Z h460 r_183 kS0 "coder" "B" (.int 0) := (f456.other W460 (Or.inl (Ne.symm ne432)))
  have f466 : Fld Z h460 r_183 kS0 "value" "[B" (.ref t_183) := (f457.other W460 (Or.inl (Ne.symm ne432)))
  have f467 : Arv Z h460 t_183 k_183 .byte N_183 vs_183 (.int 0) := (f458.other W460 ne439)
  obtain ⟨_, _, ⟨T462, L462, k462, n462⟩, -, X462, ⟨Lc462, hQ462, l462, y462, z462⟩, st462⟩ := Jvm.LawKit.callS X460 hx (y := (⟨kS1, "at", kS3⟩ : MethodName)) hown183 (mvT hZ183 (wd hw 14 rfl)) (mvT hZ183 (wd hw 15 rfl)) (mvT hZ183 (wd hw 2 rfl)) (mvT hZ183 (wd hw 16 rfl)) (by decide) (backOf (W := 2) (rm_at l Z a0 hw [] (4 : Int32) uw pp xx p3 p4 p5 r_183 t_183 k_183 N_183 vs_183 cs_183 z0 f0 h460 n0 nz460 f463 f464 f465 f466 f467 (by first | assumption | decide | omega) (by first | assumption | decide | omega) (by first | assumption | decide | omega) (by first | assumption | decide | omega) r183_0 r183_1 r183_2 r183_3 (by decide) rxx qxx) hZ183 (wd hw 16 rfl) (wd hw 2 rfl) (by decide) (by decide)) (g := (mkF m 219 (la17 p0 p1 p2 p3 p4 p5 uw xl r_183 (5 : Int32) pp xx b421) [(.int p5), (.int p4), (.int p3), (.int xx), (.int pp), (.int uw), (.ref r_183), (.int 4), (.int 4), (.ref b421)])) rfl (by rw [hml]; rfl) (argsL := [(.int 4), (.ref r_183), (.int uw), (.int pp), (.int xx), (.int p3), (.int p4), (.int p5)]) (rest := [(.int 4), (.ref b421)]) (lenOf pd_9 rfl) rfl (wz rfl) (hb hby at_219) (fun _ _ => ⟨rfl, e460, (by decide : 3 + 0 ≤ _), (by decide : 45 + 0 ≤ _)⟩)
  dsimp only [Pt.U, Pt.locs, Pt.cells, Pt.slots] at X462 l462 y462 z462 st462 hQ462
  rw [l462, y462, z462] at X462
  obtain ⟨cv_462, rfl, N462q, e462, r462_0, r462_1⟩ := hQ462
  have N462 := Fr.app N460 N462q
  obtain ⟨cl468, Ar468, q468, S468, M468, H468, G468⟩ := id V460
  have hin468 : ¬ ((4 : Int32) < 0 ∨ cl468.slots.size ≤ ((4 : Int32)).toNatClampNeg) := inb_of S468 ⟨by decide, by decide⟩
  obtain ⟨T469, h469, X469, e469, W469, st469⟩ := stC X462 hx hZ183 e462 Ar468 (j := (4 : Int32)) hin468 (g := (mkF m 222 (la17 p0 p1 p2 p3 p4 p5 uw xl r_183 (5 : Int32) pp xx b421) [(.int cv_462), (.int 4), (.ref b421)])) rfl rfl (hb hby at_222)
  have N469 := Fr.snoc X469 N462 ge431
  have C470 : CHr Z EL1 s.vm h0 T183.vm h469 := C461.trans (CHr.wr W469 (Safe.arv hZ183.alike V460 (by decide)) C461.1)
  have sz469 : h460.size ≤ h469.size := Nat.le_of_eq W469.size.symm
  have nz469 := Nat.le_trans nz460 sz469
  have V469 : Arv Z h469 b421 k421 .char (5 : Int32) [(.int (nar .char cv_423)), (.int (nar .char cv_434)), (.int (nar .char cv_444)), (.int (nar .char cv_453)), (.int (nar .char cv_462))] (.int 0) := Arv.set Ar468 q468 S468 M468 H468 G468 (fits_nar_char _) W469 4 rfl (Nat.le_of_ble_eq_true rfl)
  have V471 : Arv Z h469 b421 k421 .char (5 : Int32) [(.int cv_423), (.int cv_434), (.int cv_444), (.int cv_453), (.int cv_462)] (.int 0) := by
   have q := V469
   rw [r423_1, r434_1, r444_1, r453_1, r462_1] at q
   exact q
  obtain ⟨T472, h472, X472, e472, E472, A472, D472, U472, st472⟩ := newO X469 hx hZ183 hown183 (wd hw 20 rfl) (wd hw 6 rfl) (wd hw 5 rfl) e469 (g := (mkF m 370 (la17 p0 p1 p2 p3 p4 p5 uw xl r_183 (5 : Int32) pp xx b421) [])) rfl (hb hby at_370) (by decide) (by decide)
  obtain ⟨b472, g472⟩ : ∃ z, z = h469.size := ⟨_, rfl⟩
  rw [← g472] at A472 D472 U472 st472
  have C473 : CHr Z EL1 s.vm h0 T183.vm h472 := C470.trans (CHr.ext E472 C470.1)
  have sz472 : h469.size ≤ h472.size := E472.1
  have nz472 := Nat.le_trans nz469 sz472
  have lt472 := ltA A472.lt
  have B472 : Safe Z EL1 T183.vm h472 b472 := Safe.ext E472 C470.1 (Safe.new (by omega))
  have f474 : Fld Z h472 b472 kS0 "value" "[B" .null := D472 (Or.inr (wd hw 8 rfl)) (ty := (.array .byte)) (by decide)
  have f475 : Fld Z h472 b472 kS0 "coder" "B" (.int 0) := D472 (Or.inr (wd hw 9 rfl)) (ty := .byte) (by decide)
  have f476 : Arv Z h472 b421 k421 .char (5 : Int32) [(.int cv_423), (.int cv_434), (.int cv_444), (.int cv_453), (.int cv_462)] (.int 0) := (V471.ext E472)
  have f477 : Old Z n0 h472 := ((f463.wr W469 ge431).ext E472)
  have S478 : Sta Z h472 kS0 "COMPACT_STRINGS" "Z" (.int z0) := SZc.ext f477.2
  obtain ⟨v479, _, ⟨T479, L479, k479, n479⟩, -, X479, ⟨Lc479, hQ479, l479, y479, z479⟩, st479⟩ := X472.specialBack hx (y := (⟨kS0, "<init>", "([C)V"⟩ : MethodName)) rfl hown183 (mvT hZ183 (wd hw 21 rfl)) (mvT hZ183 (wd hw 22 rfl)) (mvT hZ183 (wd hw 23 rfl)) (by decide) (StrChars.Road.backV (W := 1) hZ183 (own_hws hw) (kI := 4) (wd hw 6 rfl) (cs := ([cv_423, cv_434, cv_444, cv_453, cv_462] : List Int32)) (bs := ([cv_423, cv_434, cv_444, cv_453, cv_462] : List Int32).map (fun c => c.toInt8.toInt32)) (n := 5) (n0 := n0) (by omega) (by omega) A472 f474 f475 f476 S478 hz0 rfl rfl (by decide) (by decide) (own_allS r423_0 (own_allS r434_0 (own_allS r444_0 (own_allS r453_0 (own_allS r462_0 own_all0))))) rfl (by decide) (by decide)) (g := (mkF m 376 (la17 p0 p1 p2 p3 p4 p5 uw xl r_183 (5 : Int32) pp xx b421) [(.ref b421), (.ref b472), (.ref b472)])) rfl (by rw [hml]; rfl) (Steps.refl _) (a := b472) (argsL := [(.ref b421)]) (rest := [(.ref b472)]) (lenOf pd_7 rfl) rfl (wz rfl) (hb hby at_376) (fun _ _ => ⟨rfl, e472, (by decide : 4 + 1 ≤ _), (by decide : 49 + 5 ≤ _)⟩)
  dsimp only [Pt.U, Pt.locs, Pt.cells, Pt.slots] at X479 l479 y479 z479 st479 hQ479
  rw [l479, y479, z479] at X479
  obtain ⟨h479, e479⟩ : ∃ z, T479.heap = z := ⟨_, rfl⟩
  rw [e479] at hQ479
  obtain ⟨rfl, N479q, K479, A479, Fc479, t479, kb479, u479, lo479, nt479, Fv479, V479⟩ := hQ479
  have N479 := Fr.app N469 N479q
  have f480 : Arv Z h472 t_183 k_183 .byte N_183 vs_183 (.int 0) := ((f467.other W469 ne439).ext E472)
  have ne481 : b472 ≠ t_183 := Exa.neArv A472 f480 (wd hw 6 rfl)
  have C482 : CHr Z EL1 s.vm h0 T183.vm h479 := C473.trans (CHr.keep K479 (sfS B472 sf0) C473.1)
  have sz479 : h472.size ≤ h479.size := K479.1
  have nz479 := Nat.le_trans nz472 sz479
  have lt479 := ltA V479.lt
  have hcd479 : StrChars.Road.CodA ([cv_423, cv_434, cv_444, cv_453, cv_462] : List Int32) 0 (5 : Int32) ((([cv_423, cv_434, cv_444, cv_453, cv_462] : List Int32).map (fun c => c.toInt8.toInt32)).map Value.int) := own_codn rfl (fun c hc => ((own_allS r423_0 (own_allS r434_0 (own_allS r444_0 (own_allS r453_0 (own_allS r462_0 own_all0))))) c hc).2)
  -- pc 383: Kind.named by rm_named
  have ge484 : n0 ≤ b472 := by omega
  have f485 : Old Z n0 h479 := (f477.keep K479 (allS ge484 all0))
  obtain ⟨_, _, ⟨T483, L483, k483, n483⟩, -, X483, ⟨Lc483, hQ483, l483, y483, z483⟩, st483⟩ := Jvm.LawKit.callS X479 hx (y := (⟨"com/example/rolegrant/rolegrant/policy/Kind", "named", kS2⟩ : MethodName)) hown183 (mvT hZ183 (wd hw 44 rfl)) (mvT hZ183 (wd hw 45 rfl)) (mvT hZ183 (wd hw 46 rfl)) (mvT hZ183 (wd hw 47 rfl)) (by decide) (backOf (W := 0) (rm_named l Z a0 hw [] b472 t479 kb479 (5 : Int32) ((([cv_423, cv_434, cv_444, cv_453, cv_462] : List Int32).map (fun c => c.toInt8.toInt32)).map Value.int) ([cv_423, cv_434, cv_444, cv_453, cv_462] : List Int32) z0 va u0 u1 u2 u3 w0 w1 w2 w3 y0 y1 y2 y3 kV b0 b1 b2 b3 h479 n0 nz479 f485 A479 Fc479 Fv479 V479 (by first | assumption | decide | omega) (by first | assumption | decide | omega) hcd479 (own_up (own_allS r423_0 (own_allS r434_0 (own_allS r444_0 (own_allS r453_0 (own_allS r462_0 own_all0)))))) (Nat.le_of_ble_eq_true rfl) (by first | assumption | decide | omega)) hZ183 (wd hw 47 rfl) (wd hw 46 rfl) (by decide) (by decide)) (g := (mkF m 383 (la18 p0 p1 p2 p3 p4 p5 uw xl r_183 (5 : Int32) pp xx b421 b472) [(.ref b472)])) rfl (by rw [hml]; rfl) (argsL := [(.ref b472)]) (rest := []) (lenOf pd_8 rfl) rfl (wz rfl) (hb hby at_383) (fun _ _ => ⟨rfl, e479, (by decide : 5 + 1 ≤ _), (by decide : 54 + 4 ≤ _)⟩)
  dsimp only [Pt.U, Pt.locs, Pt.cells, Pt.slots] at X483 l483 y483 z483 st483 hQ483
  rw [l483, y483, z483] at X483
  obtain ⟨h483, e483⟩ : ∃ z, T483.heap = z := ⟨_, rfl⟩
  rw [e483] at hQ483
  obtain ⟨rfl, N483q, K483⟩ := hQ483
  have N483 := Fr.app N479 N483q
  have C486 : CHr Z EL1 s.vm h0 T183.vm h483 := C482.trans (CHr.keep K483 sf0 C482.1)
  have sz483 : h479.size ≤ h483.size := K483.1
  have nz483 := Nat.le_trans nz479 sz483
  -- pc 388: KindNamedPinLaw.expected by rm_exp
  have f488 : Old Z n0 h483 := (f485.keep K483 all0)
  have f489 : Exa Z h483 b472 kS0 := (A479.keep K483)
  have f490 : Fld Z h483 b472 kS0 "coder" "B" (.int 0) := (Fc479.keep K483 nin0)
  have f491 : Fld Z h483 b472 kS0 "value" "[B" (.ref t479) := (Fv479.keep K483 nin0)
  have f492 : Arv Z h483 t479 kb479 .byte (5 : Int32) ((([cv_423, cv_434, cv_444, cv_453, cv_462] : List Int32).map (fun c => c.toInt8.toInt32)).map Value.int) (.int 0) := (V479.keep K483 nin0)
  obtain ⟨_, _, ⟨T487, L487, k487, n487⟩, -, X487w, hS487w, gr487, ⟨Lc487, hQ487, l487, y487, z487, C487w⟩, st487⟩ := callSS X483 hx (y := (⟨kS1, "expected", kS2⟩ : MethodName)) hown183 (mvT hZ183 (wd hw 79 rfl)) (mvT hZ183 (wd hw 80 rfl)) (mvT hZ183 (wd hw 2 rfl)) (mvT hZ183 (wd hw 81 rfl)) (by decide) (own_backS (W := 1) (rm_exp l Z a0 hw [] b472 t479 kb479 (5 : Int32) ((([cv_423, cv_434, cv_444, cv_453, cv_462] : List Int32).map (fun c => c.toInt8.toInt32)).map Value.int) ([cv_423, cv_434, cv_444, cv_453, cv_462] : List Int32) z0 va u0 u1 u2 u3 w0 w1 w2 w3 y0 y1 y2 y3 kV b0 b1 b2 b3 h483 n0 nz483 f488 f489 f490 f491 f492 (by first | assumption | decide | omega) (by first | assumption | decide | omega) hcd479 (own_up (own_allS r423_0 (own_allS r434_0 (own_allS r444_0 (own_allS r453_0 (own_allS r462_0 own_all0)))))) (Nat.le_of_ble_eq_true rfl) (by first | assumption | decide | omega)) hZ183 (wd hw 81 rfl) (wd hw 2 rfl) (by decide) (by decide) (own_EW hw) C486.1 sf0 all0) (g := (mkF m 388 (la18 p0 p1 p2 p3 p4 p5 uw xl r_183 (5 : Int32) pp xx b421 b472) [(.ref b472), (own_pick ([cv_423, cv_434, cv_444, cv_453, cv_462] : List Int32) u0 u1 u2 u3)])) rfl (by rw [hml]; rfl) (argsL := [(.ref b472)]) (rest := [(own_pick ([cv_423, cv_434, cv_444, cv_453, cv_462] : List Int32) u0 u1 u2 u3)]) (lenOf pd_8 rfl) rfl (own_wx _ _ _ _ _) (hb hby at_388) (fun _ _ => ⟨rfl, e483, (by decide : 6 + 8 ≤ _), (by decide : 58 + 104 ≤ _)⟩)
  dsimp only [Pt.U, Pt.locs, Pt.cells, Pt.slots] at X487w hS487w gr487 l487 y487 z487 st487 hQ487 C487w
  rw [l487, y487, z487] at X487w
  obtain ⟨X487, hS487, hZ487, hown487⟩ := rebS hS183 (by rw [e483]; omega) X487w hS487w gr487 hZ183 hown183
  obtain ⟨h487, e487⟩ : ∃ z, T487.heap = z := ⟨_, rfl⟩
  rw [e487] at hQ487
  obtain ⟨rfl, N487q, K487⟩ := hQ487
  have N487 := Fr.app N483 N487q
  rw [e487] at C487w hS487
  have hk487 : h487.size ≤ h487.size := Nat.le_refl _
  have C493 : CHr Z EL1 s.vm h0 T487.vm h487 := C486.trans (C487w)
  have sz487 : h483.size ≤ h487.size := K487.1
  have nz487 := Nat.le_trans nz483 sz487
  obtain ⟨fs, hr, hrun, hended, hE⟩ := X487.leaveW hS487 (by rw [e487]; omega) (v := some (.int 1)) (fun h => by rw [Bd.returns] at h; cases h)
  have CE := C493.trans (CHv.at X487 hZ487 (own_EW hw) C493.1)
  refine ⟨_, _, pre196 _ ?_, hrun, hended, _, _, rfl, ?_, ?_, ⟨hE.1, hE.2.1, hE.2.2.1, hE.2.2.2.mono (by decide) (by decide)⟩⟩
  ·show GO p e below T186 (mkF m 83 (la16 p0 p1 p2 p3 p4 p5 uw xl r_183 (5 : Int32) pp xx) []) _
   refine XS.iload X186.here hx rfl (hb hby at_83) rfl ?_
   show GO p e below T186 (mkF m 85 (la16 p0 p1 p2 p3 p4 p5 uw xl r_183 (5 : Int32) pp xx) [(.int 5)]) _
   refine st421 _ ?_
   show GO p e below T421 (mkF m 87 (la16 p0 p1 p2 p3 p4 p5 uw xl r_183 (5 : Int32) pp xx) [(.ref b421)]) _
   refine XS.astore X421.here hx rfl (hb hby at_87) rfl rfl (l' := (la17 p0 p1 p2 p3 p4 p5 uw xl r_183 (5 : Int32) pp xx b421)) rfl ?_
   show GO p e below T421 (mkF m 89 (la17 p0 p1 p2 p3 p4 p5 uw xl r_183 (5 : Int32) pp xx b421) []) _
   refine XS.iload X421.here hx rfl (hb hby at_89) rfl ?_
   show GO p e below T421 (mkF m 91 (la17 p0 p1 p2 p3 p4 p5 uw xl r_183 (5 : Int32) pp xx b421) [(.int 5)]) _
   refine XS.ifNo X421.here hx rfl (hb hby at_91) rfl ((if0 _ _).trans (tlt ((by decide) : (0 : Int32) < (5 : Int32))).2.2.2) ?_
   show GO p e below T421 (mkF m 94 (la17 p0 p1 p2 p3 p4 p5 uw xl r_183 (5 : Int32) pp xx b421) []) _
   refine XS.aload X421.here hx rfl (hb hby at_94) rfl rfl ?_
   show GO p e below T421 (mkF m 96 (la17 p0 p1 p2 p3 p4 p5 uw xl r_183 (5 : Int32) pp xx b421) [(.ref b421)]) _
   refine XS.iconst X421.here hx rfl (hb hby at_96) ?_
   show GO p e below T421 (mkF m 97 (la17 p0 p1 p2 p3 p4 p5 uw xl r_183 (5 : Int32) pp xx b421) [(.int 0), (.ref b421)]) _
   refine XS.iconst X421.here hx rfl (hb hby at_97) ?_
   show GO p e below T421 (mkF m 98 (la17 p0 p1 p2 p3 p4 p5 uw xl r_183 (5 : Int32) pp xx b421) [(.int 0), (.int 0), (.ref b421)]) _
   refine XS.aload X421.here hx rfl (hb hby at_98) rfl rfl ?_
   show GO p e below T421 (mkF m 100 (la17 p0 p1 p2 p3 p4 p5 uw xl r_183 (5 : Int32) pp xx b421) [(.ref r_183), (.int 0), (.int 0), (.ref b421)]) _
   refine XS.iload X421.here hx rfl (hb hby at_100) rfl ?_
   show GO p e below T421 (mkF m 102 (la17 p0 p1 p2 p3 p4 p5 uw xl r_183 (5 : Int32) pp xx b421) [(.int uw), (.ref r_183), (.int 0), (.int 0), (.ref b421)]) _
   refine XS.iload X421.here hx rfl (hb hby at_102) rfl ?_
   show GO p e below T421 (mkF m 104 (la17 p0 p1 p2 p3 p4 p5 uw xl r_183 (5 : Int32) pp xx b421) [(.int pp), (.int uw), (.ref r_183), (.int 0), (.int 0), (.ref b421)]) _
   refine XS.iload X421.here hx rfl (hb hby at_104) rfl ?_
   show GO p e below T421 (mkF m 106 (la17 p0 p1 p2 p3 p4 p5 uw xl r_183 (5 : Int32) pp xx b421) [(.int xx), (.int pp), (.int uw), (.ref r_183), (.int 0), (.int 0), (.ref b421)]) _
   refine XS.iloadN X421.here hx rfl (hb hby at_106) rfl ?_
   show GO p e below T421 (mkF m 107 (la17 p0 p1 p2 p3 p4 p5 uw xl r_183 (5 : Int32) pp xx b421) [(.int p3), (.int xx), (.int pp), (.int uw), (.ref r_183), (.int 0), (.int 0), (.ref b421)]) _
   refine XS.iload X421.here hx rfl (hb hby at_107) rfl ?_
   show GO p e below T421 (mkF m 109 (la17 p0 p1 p2 p3 p4 p5 uw xl r_183 (5 : Int32) pp xx b421) [(.int p4), (.int p3), (.int xx), (.int pp), (.int uw), (.ref r_183), (.int 0), (.int 0), (.ref b421)]) _
   refine XS.iload X421.here hx rfl (hb hby at_109) rfl ?_
   show GO p e below T421 (mkF m 111 (la17 p0 p1 p2 p3 p4 p5 uw xl r_183 (5 : Int32) pp xx b421) [(.int p5), (.int p4), (.int p3), (.int xx), (.int pp), (.int uw), (.ref r_183), (.int 0), (.int 0), (.ref b421)]) _
   refine st423 _ ?_
   show GO p e below T423 (mkF m 114 (la17 p0 p1 p2 p3 p4 p5 uw xl r_183 (5 : Int32) pp xx b421) [(.int cv_423), (.int 0), (.ref b421)]) _
   refine st430 _ ?_
   show GO p e below T430 (mkF m 115 (la17 p0 p1 p2 p3 p4 p5 uw xl r_183 (5 : Int32) pp xx b421) []) _
   refine XS.iload X430.here hx rfl (hb hby at_115) rfl ?_
   show GO p e below T430 (mkF m 117 (la17 p0 p1 p2 p3 p4 p5 uw xl r_183 (5 : Int32) pp xx b421) [(.int 5)]) _
   refine XS.iconst X430.here hx rfl (hb hby at_117) ?_
   show GO p e below T430 (mkF m 118 (la17 p0 p1 p2 p3 p4 p5 uw xl r_183 (5 : Int32) pp xx b421) [(.int 1), (.int 5)]) _
   refine XS.icmpNo X430.here hx rfl (hb hby at_118) rfl (tlt ((by decide) : (1 : Int32) < (5 : Int32))).2.2.2 ?_
   show GO p e below T430 (mkF m 121 (la17 p0 p1 p2 p3 p4 p5 uw xl r_183 (5 : Int32) pp xx b421) []) _
   refine XS.aload X430.here hx rfl (hb hby at_121) rfl rfl ?_
   show GO p e below T430 (mkF m 123 (la17 p0 p1 p2 p3 p4 p5 uw xl r_183 (5 : Int32) pp xx b421) [(.ref b421)]) _
   refine XS.iconst X430.here hx rfl (hb hby at_123) ?_
   show GO p e below T430 (mkF m 124 (la17 p0 p1 p2 p3 p4 p5 uw xl r_183 (5 : Int32) pp xx b421) [(.int 1), (.ref b421)]) _
   refine XS.iconst X430.here hx rfl (hb hby at_124) ?_
   show GO p e below T430 (mkF m 125 (la17 p0 p1 p2 p3 p4 p5 uw xl r_183 (5 : Int32) pp xx b421) [(.int 1), (.int 1), (.ref b421)]) _
   refine XS.aload X430.here hx rfl (hb hby at_125) rfl rfl ?_
   show GO p e below T430 (mkF m 127 (la17 p0 p1 p2 p3 p4 p5 uw xl r_183 (5 : Int32) pp xx b421) [(.ref r_183), (.int 1), (.int 1), (.ref b421)]) _
   refine XS.iload X430.here hx rfl (hb hby at_127) rfl ?_
   show GO p e below T430 (mkF m 129 (la17 p0 p1 p2 p3 p4 p5 uw xl r_183 (5 : Int32) pp xx b421) [(.int uw), (.ref r_183), (.int 1), (.int 1), (.ref b421)]) _
   refine XS.iload X430.here hx rfl (hb hby at_129) rfl ?_
   show GO p e below T430 (mkF m 131 (la17 p0 p1 p2 p3 p4 p5 uw xl r_183 (5 : Int32) pp xx b421) [(.int pp), (.int uw), (.ref r_183), (.int 1), (.int 1), (.ref b421)]) _
   refine XS.iload X430.here hx rfl (hb hby at_131) rfl ?_
   show GO p e below T430 (mkF m 133 (la17 p0 p1 p2 p3 p4 p5 uw xl r_183 (5 : Int32) pp xx b421) [(.int xx), (.int pp), (.int uw), (.ref r_183), (.int 1), (.int 1), (.ref b421)]) _
   refine XS.iloadN X430.here hx rfl (hb hby at_133) rfl ?_
   show GO p e below T430 (mkF m 134 (la17 p0 p1 p2 p3 p4 p5 uw xl r_183 (5 : Int32) pp xx b421) [(.int p3), (.int xx), (.int pp), (.int uw), (.ref r_183), (.int 1), (.int 1), (.ref b421)]) _
   refine XS.iload X430.here hx rfl (hb hby at_134) rfl ?_
   show GO p e below T430 (mkF m 136 (la17 p0 p1 p2 p3 p4 p5 uw xl r_183 (5 : Int32) pp xx b421) [(.int p4), (.int p3), (.int xx), (.int pp), (.int uw), (.ref r_183), (.int 1), (.int 1), (.ref b421)]) _
   refine XS.iload X430.here hx rfl (hb hby at_136) rfl ?_
   show GO p e below T430 (mkF m 138 (la17 p0 p1 p2 p3 p4 p5 uw xl r_183 (5 : Int32) pp xx b421) [(.int p5), (.int p4), (.int p3), (.int xx), (.int pp), (.int uw), (.ref r_183), (.int 1), (.int 1), (.ref b421)]) _
   refine st434 _ ?_
   show GO p e below T434 (mkF m 141 (la17 p0 p1 p2 p3 p4 p5 uw xl r_183 (5 : Int32) pp xx b421) [(.int cv_434), (.int 1), (.ref b421)]) _
   refine st442 _ ?_
   show GO p e below T442 (mkF m 142 (la17 p0 p1 p2 p3 p4 p5 uw xl r_183 (5 : Int32) pp xx b421) []) _
   refine XS.iload X442.here hx rfl (hb hby at_142) rfl ?_
   show GO p e below T442 (mkF m 144 (la17 p0 p1 p2 p3 p4 p5 uw xl r_183 (5 : Int32) pp xx b421) [(.int 5)]) _
   refine XS.iconst X442.here hx rfl (hb hby at_144) ?_
   show GO p e below T442 (mkF m 145 (la17 p0 p1 p2 p3 p4 p5 uw xl r_183 (5 : Int32) pp xx b421) [(.int 2), (.int 5)]) _
   refine XS.icmpNo X442.here hx rfl (hb hby at_145) rfl (tlt ((by decide) : (2 : Int32) < (5 : Int32))).2.2.2 ?_
   show GO p e below T442 (mkF m 148 (la17 p0 p1 p2 p3 p4 p5 uw xl r_183 (5 : Int32) pp xx b421) []) _
   refine XS.aload X442.here hx rfl (hb hby at_148) rfl rfl ?_
   show GO p e below T442 (mkF m 150 (la17 p0 p1 p2 p3 p4 p5 uw xl r_183 (5 : Int32) pp xx b421) [(.ref b421)]) _
   refine XS.iconst X442.here hx rfl (hb hby at_150) ?_
   show GO p e below T442 (mkF m 151 (la17 p0 p1 p2 p3 p4 p5 uw xl r_183 (5 : Int32) pp xx b421) [(.int 2), (.ref b421)]) _
   refine XS.iconst X442.here hx rfl (hb hby at_151) ?_
   show GO p e below T442 (mkF m 152 (la17 p0 p1 p2 p3 p4 p5 uw xl r_183 (5 : Int32) pp xx b421) [(.int 2), (.int 2), (.ref b421)]) _
   refine XS.aload X442.here hx rfl (hb hby at_152) rfl rfl ?_
   show GO p e below T442 (mkF m 154 (la17 p0 p1 p2 p3 p4 p5 uw xl r_183 (5 : Int32) pp xx b421) [(.ref r_183), (.int 2), (.int 2), (.ref b421)]) _
   refine XS.iload X442.here hx rfl (hb hby at_154) rfl ?_
   show GO p e below T442 (mkF m 156 (la17 p0 p1 p2 p3 p4 p5 uw xl r_183 (5 : Int32) pp xx b421) [(.int uw), (.ref r_183), (.int 2), (.int 2), (.ref b421)]) _
   refine XS.iload X442.here hx rfl (hb hby at_156) rfl ?_
   show GO p e below T442 (mkF m 158 (la17 p0 p1 p2 p3 p4 p5 uw xl r_183 (5 : Int32) pp xx b421) [(.int pp), (.int uw), (.ref r_183), (.int 2), (.int 2), (.ref b421)]) _
   refine XS.iload X442.here hx rfl (hb hby at_158) rfl ?_
   show GO p e below T442 (mkF m 160 (la17 p0 p1 p2 p3 p4 p5 uw xl r_183 (5 : Int32) pp xx b421) [(.int xx), (.int pp), (.int uw), (.ref r_183), (.int 2), (.int 2), (.ref b421)]) _
   refine XS.iloadN X442.here hx rfl (hb hby at_160) rfl ?_
   show GO p e below T442 (mkF m 161 (la17 p0 p1 p2 p3 p4 p5 uw xl r_183 (5 : Int32) pp xx b421) [(.int p3), (.int xx), (.int pp), (.int uw), (.ref r_183), (.int 2), (.int 2), (.ref b421)]) _
   refine XS.iload X442.here hx rfl (hb hby at_161) rfl ?_
   show GO p e below T442 (mkF m 163 (la17 p0 p1 p2 p3 p4 p5 uw xl r_183 (5 : Int32) pp xx b421) [(.int p4), (.int p3), (.int xx), (.int pp), (.int uw), (.ref r_183), (.int 2), (.int 2), (.ref b421)]) _
   refine XS.iload X442.here hx rfl (hb hby at_163) rfl ?_
   show GO p e below T442 (mkF m 165 (la17 p0 p1 p2 p3 p4 p5 uw xl r_183 (5 : Int32) pp xx b421) [(.int p5), (.int p4), (.int p3), (.int xx), (.int pp), (.int uw), (.ref r_183), (.int 2), (.int 2), (.ref b421)]) _
   refine st444 _ ?_
   show GO p e below T444 (mkF m 168 (la17 p0 p1 p2 p3 p4 p5 uw xl r_183 (5 : Int32) pp xx b421) [(.int cv_444), (.int 2), (.ref b421)]) _
   refine st451 _ ?_
   show GO p e below T451 (mkF m 169 (la17 p0 p1 p2 p3 p4 p5 uw xl r_183 (5 : Int32) pp xx b421) []) _
   refine XS.iload X451.here hx rfl (hb hby at_169) rfl ?_
   show GO p e below T451 (mkF m 171 (la17 p0 p1 p2 p3 p4 p5 uw xl r_183 (5 : Int32) pp xx b421) [(.int 5)]) _
   refine XS.iconst X451.here hx rfl (hb hby at_171) ?_
   show GO p e below T451 (mkF m 172 (la17 p0 p1 p2 p3 p4 p5 uw xl r_183 (5 : Int32) pp xx b421) [(.int 3), (.int 5)]) _
   refine XS.icmpNo X451.here hx rfl (hb hby at_172) rfl (tlt ((by decide) : (3 : Int32) < (5 : Int32))).2.2.2 ?_
   show GO p e below T451 (mkF m 175 (la17 p0 p1 p2 p3 p4 p5 uw xl r_183 (5 : Int32) pp xx b421) []) _
   refine XS.aload X451.here hx rfl (hb hby at_175) rfl rfl ?_
   show GO p e below T451 (mkF m 177 (la17 p0 p1 p2 p3 p4 p5 uw xl r_183 (5 : Int32) pp xx b421) [(.ref b421)]) _
   refine XS.iconst X451.here hx rfl (hb hby at_177) ?_
   show GO p e below T451 (mkF m 178 (la17 p0 p1 p2 p3 p4 p5 uw xl r_183 (5 : Int32) pp xx b421) [(.int 3), (.ref b421)]) _
   refine XS.iconst X451.here hx rfl (hb hby at_178) ?_
   show GO p e below T451 (mkF m 179 (la17 p0 p1 p2 p3 p4 p5 uw xl r_183 (5 : Int32) pp xx b421) [(.int 3), (.int 3), (.ref b421)]) _
   refine XS.aload X451.here hx rfl (hb hby at_179) rfl rfl ?_
   show GO p e below T451 (mkF m 181 (la17 p0 p1 p2 p3 p4 p5 uw xl r_183 (5 : Int32) pp xx b421) [(.ref r_183), (.int 3), (.int 3), (.ref b421)]) _
   refine XS.iload X451.here hx rfl (hb hby at_181) rfl ?_
   show GO p e below T451 (mkF m 183 (la17 p0 p1 p2 p3 p4 p5 uw xl r_183 (5 : Int32) pp xx b421) [(.int uw), (.ref r_183), (.int 3), (.int 3), (.ref b421)]) _
   refine XS.iload X451.here hx rfl (hb hby at_183) rfl ?_
   show GO p e below T451 (mkF m 185 (la17 p0 p1 p2 p3 p4 p5 uw xl r_183 (5 : Int32) pp xx b421) [(.int pp), (.int uw), (.ref r_183), (.int 3), (.int 3), (.ref b421)]) _
   refine XS.iload X451.here hx rfl (hb hby at_185) rfl ?_
   show GO p e below T451 (mkF m 187 (la17 p0 p1 p2 p3 p4 p5 uw xl r_183 (5 : Int32) pp xx b421) [(.int xx), (.int pp), (.int uw), (.ref r_183), (.int 3), (.int 3), (.ref b421)]) _
   refine XS.iloadN X451.here hx rfl (hb hby at_187) rfl ?_
   show GO p e below T451 (mkF m 188 (la17 p0 p1 p2 p3 p4 p5 uw xl r_183 (5 : Int32) pp xx b421) [(.int p3), (.int xx), (.int pp), (.int uw), (.ref r_183), (.int 3), (.int 3), (.ref b421)]) _
   refine XS.iload X451.here hx rfl (hb hby at_188) rfl ?_
   show GO p e below T451 (mkF m 190 (la17 p0 p1 p2 p3 p4 p5 uw xl r_183 (5 : Int32) pp xx b421) [(.int p4), (.int p3), (.int xx), (.int pp), (.int uw), (.ref r_183), (.int 3), (.int 3), (.ref b421)]) _
   refine XS.iload X451.here hx rfl (hb hby at_190) rfl ?_
   show GO p e below T451 (mkF m 192 (la17 p0 p1 p2 p3 p4 p5 uw xl r_183 (5 : Int32) pp xx b421) [(.int p5), (.int p4), (.int p3), (.int xx), (.int pp), (.int uw), (.ref r_183), (.int 3), (.int 3), (.ref b421)]) _
   refine st453 _ ?_
   show GO p e below T453 (mkF m 195 (la17 p0 p1 p2 p3 p4 p5 uw xl r_183 (5 : Int32) pp xx b421) [(.int cv_453), (.int 3), (.ref b421)]) _
   refine st460 _ ?_
   show GO p e below T460 (mkF m 196 (la17 p0 p1 p2 p3 p4 p5 uw xl r_183 (5 : Int32) pp xx b421) []) _
   refine XS.iload X460.here hx rfl (hb hby at_196) rfl ?_
   show GO p e below T460 (mkF m 198 (la17 p0 p1 p2 p3 p4 p5 uw xl r_183 (5 : Int32) pp xx b421) [(.int 5)]) _
   refine XS.iconst X460.here hx rfl (hb hby at_198) ?_
   show GO p e below T460 (mkF m 199 (la17 p0 p1 p2 p3 p4 p5 uw xl r_183 (5 : Int32) pp xx b421) [(.int 4), (.int 5)]) _
   refine XS.icmpNo X460.here hx rfl (hb hby at_199) rfl (tlt ((by decide) : (4 : Int32) < (5 : Int32))).2.2.2 ?_
   show GO p e below T460 (mkF m 202 (la17 p0 p1 p2 p3 p4 p5 uw xl r_183 (5 : Int32) pp xx b421) []) _
   refine XS.aload X460.here hx rfl (hb hby at_202) rfl rfl ?_
   show GO p e below T460 (mkF m 204 (la17 p0 p1 p2 p3 p4 p5 uw xl r_183 (5 : Int32) pp xx b421) [(.ref b421)]) _
   refine XS.iconst X460.here hx rfl (hb hby at_204) ?_
   show GO p e below T460 (mkF m 205 (la17 p0 p1 p2 p3 p4 p5 uw xl r_183 (5 : Int32) pp xx b421) [(.int 4), (.ref b421)]) _
   refine XS.iconst X460.here hx rfl (hb hby at_205) ?_
   show GO p e below T460 (mkF m 206 (la17 p0 p1 p2 p3 p4 p5 uw xl r_183 (5 : Int32) pp xx b421) [(.int 4), (.int 4), (.ref b421)]) _
   refine XS.aload X460.here hx rfl (hb hby at_206) rfl rfl ?_
   show GO p e below T460 (mkF m 208 (la17 p0 p1 p2 p3 p4 p5 uw xl r_183 (5 : Int32) pp xx b421) [(.ref r_183), (.int 4), (.int 4), (.ref b421)]) _
   refine XS.iload X460.here hx rfl (hb hby at_208) rfl ?_
   show GO p e below T460 (mkF m 210 (la17 p0 p1 p2 p3 p4 p5 uw xl r_183 (5 : Int32) pp xx b421) [(.int uw), (.ref r_183), (.int 4), (.int 4), (.ref b421)]) _
   refine XS.iload X460.here hx rfl (hb hby at_210) rfl ?_
   show GO p e below T460 (mkF m 212 (la17 p0 p1 p2 p3 p4 p5 uw xl r_183 (5 : Int32) pp xx b421) [(.int pp), (.int uw), (.ref r_183), (.int 4), (.int 4), (.ref b421)]) _
   refine XS.iload X460.here hx rfl (hb hby at_212) rfl ?_
   show GO p e below T460 (mkF m 214 (la17 p0 p1 p2 p3 p4 p5 uw xl r_183 (5 : Int32) pp xx b421) [(.int xx), (.int pp), (.int uw), (.ref r_183), (.int 4), (.int 4), (.ref b421)]) _
   refine XS.iloadN X460.here hx rfl (hb hby at_214) rfl ?_
   show GO p e below T460 (mkF m 215 (la17 p0 p1 p2 p3 p4 p5 uw xl r_183 (5 : Int32) pp xx b421) [(.int p3), (.int xx), (.int pp), (.int uw), (.ref r_183), (.int 4), (.int 4), (.ref b421)]) _
   refine XS.iload X460.here hx rfl (hb hby at_215) rfl ?_
   show GO p e below T460 (mkF m 217 (la17 p0 p1 p2 p3 p4 p5 uw xl r_183 (5 : Int32) pp xx b421) [(.int p4), (.int p3), (.int xx), (.int pp), (.int uw), (.ref r_183), (.int 4), (.int 4), (.ref b421)]) _
   refine XS.iload X460.here hx rfl (hb hby at_217) rfl ?_
   show GO p e below T460 (mkF m 219 (la17 p0 p1 p2 p3 p4 p5 uw xl r_183 (5 : Int32) pp xx b421) [(.int p5), (.int p4), (.int p3), (.int xx), (.int pp), (.int uw), (.ref r_183), (.int 4), (.int 4), (.ref b421)]) _
   refine st462 _ ?_
   show GO p e below T462 (mkF m 222 (la17 p0 p1 p2 p3 p4 p5 uw xl r_183 (5 : Int32) pp xx b421) [(.int cv_462), (.int 4), (.ref b421)]) _
   refine st469 _ ?_
   show GO p e below T469 (mkF m 223 (la17 p0 p1 p2 p3 p4 p5 uw xl r_183 (5 : Int32) pp xx b421) []) _
   refine XS.iload X469.here hx rfl (hb hby at_223) rfl ?_
   show GO p e below T469 (mkF m 225 (la17 p0 p1 p2 p3 p4 p5 uw xl r_183 (5 : Int32) pp xx b421) [(.int 5)]) _
   refine XS.iconst X469.here hx rfl (hb hby at_225) ?_
   show GO p e below T469 (mkF m 226 (la17 p0 p1 p2 p3 p4 p5 uw xl r_183 (5 : Int32) pp xx b421) [(.int 5), (.int 5)]) _
   refine XS.icmpYes X469.here hx rfl (pc0 := 226) (pc' := 250) rfl (hb hby at_226) rfl (flt ((by decide) : ¬ ((5 : Int32) < (5 : Int32)))).2.2.2 (by decide) (by decide) ?_
   show GO p e below T469 (mkF m 250 (la17 p0 p1 p2 p3 p4 p5 uw xl r_183 (5 : Int32) pp xx b421) []) _
   refine XS.iload X469.here hx rfl (hb hby at_250) rfl ?_
   show GO p e below T469 (mkF m 252 (la17 p0 p1 p2 p3 p4 p5 uw xl r_183 (5 : Int32) pp xx b421) [(.int 5)]) _
   refine XS.bipush X469.here hx rfl (hb hby at_252) ?_
   show GO p e below T469 (mkF m 254 (la17 p0 p1 p2 p3 p4 p5 uw xl r_183 (5 : Int32) pp xx b421) [(.int 6), (.int 5)]) _
   refine XS.icmpYes X469.here hx rfl (pc0 := 254) (pc' := 280) rfl (hb hby at_254) rfl (flt ((by decide) : ¬ ((6 : Int32) < (5 : Int32)))).2.2.2 (by decide) (by decide) ?_
   show GO p e below T469 (mkF m 280 (la17 p0 p1 p2 p3 p4 p5 uw xl r_183 (5 : Int32) pp xx b421) []) _
   refine XS.iload X469.here hx rfl (hb hby at_280) rfl ?_
   show GO p e below T469 (mkF m 282 (la17 p0 p1 p2 p3 p4 p5 uw xl r_183 (5 : Int32) pp xx b421) [(.int 5)]) _
   refine XS.bipush X469.here hx rfl (hb hby at_282) ?_
   show GO p e below T469 (mkF m 284 (la17 p0 p1 p2 p3 p4 p5 uw xl r_183 (5 : Int32) pp xx b421) [(.int 7), (.int 5)]) _
   refine XS.icmpYes X469.here hx rfl (pc0 := 284) (pc' := 310) rfl (hb hby at_284) rfl (flt ((by decide) : ¬ ((7 : Int32) < (5 : Int32)))).2.2.2 (by decide) (by decide) ?_
   show GO p e below T469 (mkF m 310 (la17 p0 p1 p2 p3 p4 p5 uw xl r_183 (5 : Int32) pp xx b421) []) _
   refine XS.iload X469.here hx rfl (hb hby at_310) rfl ?_
   show GO p e below T469 (mkF m 312 (la17 p0 p1 p2 p3 p4 p5 uw xl r_183 (5 : Int32) pp xx b421) [(.int 5)]) _
   refine XS.bipush X469.here hx rfl (hb hby at_312) ?_
   show GO p e below T469 (mkF m 314 (la17 p0 p1 p2 p3 p4 p5 uw xl r_183 (5 : Int32) pp xx b421) [(.int 8), (.int 5)]) _
   refine XS.icmpYes X469.here hx rfl (pc0 := 314) (pc' := 340) rfl (hb hby at_314) rfl (flt ((by decide) : ¬ ((8 : Int32) < (5 : Int32)))).2.2.2 (by decide) (by decide) ?_
   show GO p e below T469 (mkF m 340 (la17 p0 p1 p2 p3 p4 p5 uw xl r_183 (5 : Int32) pp xx b421) []) _
   refine XS.iload X469.here hx rfl (hb hby at_340) rfl ?_
   show GO p e below T469 (mkF m 342 (la17 p0 p1 p2 p3 p4 p5 uw xl r_183 (5 : Int32) pp xx b421) [(.int 5)]) _
   refine XS.bipush X469.here hx rfl (hb hby at_342) ?_
   show GO p e below T469 (mkF m 344 (la17 p0 p1 p2 p3 p4 p5 uw xl r_183 (5 : Int32) pp xx b421) [(.int 9), (.int 5)]) _
   refine XS.icmpYes X469.here hx rfl (pc0 := 344) (pc' := 370) rfl (hb hby at_344) rfl (flt ((by decide) : ¬ ((9 : Int32) < (5 : Int32)))).2.2.2 (by decide) (by decide) ?_
   show GO p e below T469 (mkF m 370 (la17 p0 p1 p2 p3 p4 p5 uw xl r_183 (5 : Int32) pp xx b421) []) _
   refine st472 _ ?_
   show GO p e below T472 (mkF m 373 (la17 p0 p1 p2 p3 p4 p5 uw xl r_183 (5 : Int32) pp xx b421) [(.ref b472)]) _
   refine XS.dup X472.here hx rfl (hb hby at_373) rfl rfl ?_
   show GO p e below T472 (mkF m 374 (la17 p0 p1 p2 p3 p4 p5 uw xl r_183 (5 : Int32) pp xx b421) [(.ref b472), (.ref b472)]) _
   refine XS.aload X472.here hx rfl (hb hby at_374) rfl rfl ?_
   show GO p e below T472 (mkF m 376 (la17 p0 p1 p2 p3 p4 p5 uw xl r_183 (5 : Int32) pp xx b421) [(.ref b421), (.ref b472), (.ref b472)]) _
   refine st479.trans ?_
   show GO p e below T479 (mkF m 379 (la17 p0 p1 p2 p3 p4 p5 uw xl r_183 (5 : Int32) pp xx b421) [(.ref b472)]) _
   refine XS.astore X479.here hx rfl (hb hby at_379) rfl rfl (l' := (la18 p0 p1 p2 p3 p4 p5 uw xl r_183 (5 : Int32) pp xx b421 b472)) rfl ?_
   show GO p e below T479 (mkF m 381 (la18 p0 p1 p2 p3 p4 p5 uw xl r_183 (5 : Int32) pp xx b421 b472) []) _
   refine XS.aload X479.here hx rfl (hb hby at_381) rfl rfl ?_
   show GO p e below T479 (mkF m 383 (la18 p0 p1 p2 p3 p4 p5 uw xl r_183 (5 : Int32) pp xx b421 b472) [(.ref b472)]) _
   refine st483 _ ?_
   show GO p e below T483 (mkF m 386 (la18 p0 p1 p2 p3 p4 p5 uw xl r_183 (5 : Int32) pp xx b421 b472) [(own_pick ([cv_423, cv_434, cv_444, cv_453, cv_462] : List Int32) u0 u1 u2 u3)]) _
   refine XS.aload X483.here hx rfl (hb hby at_386) rfl rfl ?_
   show GO p e below T483 (mkF m 388 (la18 p0 p1 p2 p3 p4 p5 uw xl r_183 (5 : Int32) pp xx b421 b472) [(.ref b472), (own_pick ([cv_423, cv_434, cv_444, cv_453, cv_462] : List Int32) u0 u1 u2 u3)]) _
   refine st487.trans ?_
   show GO p e below T487 (mkF m 391 (la18 p0 p1 p2 p3 p4 p5 uw xl r_183 (5 : Int32) pp xx b421 b472) [(own_pick ([cv_423, cv_434, cv_444, cv_453, cv_462] : List Int32) u0 u1 u2 u3), (own_pick ([cv_423, cv_434, cv_444, cv_453, cv_462] : List Int32) u0 u1 u2 u3)]) _
   refine Jvm.RoadKit.acmp (g := (mkF m 391 (la18 p0 p1 p2 p3 p4 p5 uw xl r_183 (5 : Int32) pp xx b421 b472) [(own_pick ([cv_423, cv_434, cv_444, cv_453, cv_462] : List Int32) u0 u1 u2 u3), (own_pick ([cv_423, cv_434, cv_444, cv_453, cv_462] : List Int32) u0 u1 u2 u3)])) X487 hx rfl (own_pickref _ _ _ _ _) (own_pickref _ _ _ _ _) (pc0 := 391) (pc' := 394) (same := true) rfl (hb hby at_391) rfl (decide_eq_true rfl) (by decide) (by decide) ?_
   show GO p e below T487 (mkF m 394 (la18 p0 p1 p2 p3 p4 p5 uw xl r_183 (5 : Int32) pp xx b421 b472) []) _
   refine XS.iconst X487.here hx rfl (hb hby at_394) ?_
   show GO p e below T487 (mkF m 395 (la18 p0 p1 p2 p3 p4 p5 uw xl r_183 (5 : Int32) pp xx b421 b472) [(.int 1)]) _
   refine XS.goto X487.here hx rfl (pc0 := 395) (pc' := 399) rfl (hb hby at_395) (by decide) (by decide) ?_
   show GO p e below T487 (mkF m 399 (la18 p0 p1 p2 p3 p4 p5 uw xl r_183 (5 : Int32) pp xx b421 b472) [(.int 1)]) _
   exact retN X487 hx (t := .boolean) Bd.returns (by simp) (hb hby at_399) hr
  ·show Qrm0 Z p0 p1 p2 p3 p4 p5 z0 f0 va u0 u1 u2 u3 w0 w1 w2 w3 y0 y1 y2 y3 kV b0 b1 b2 b3 h0 n0 _ T487.heap _
   rw [e487]
   exact ⟨rfl, N487⟩
  ·show CHr Z EL1 s.vm s.heap T487.vm T487.heap
   rw [hh, e487]
   exact CE
 ·obtain ⟨T494, h494, k494, X494, e494, E494, A494, st494⟩ := newP X186 hx hZ183 (wd hw 13 rfl) e186 (g := (mkF m 85 (la16 p0 p1 p2 p3 p4 p5 uw xl r_183 (6 : Int32) pp xx) [(.int 6)])) rfl (hb hby at_85) rfl (by decide) (cap := 6) (by decide) (by decide) (by decide) (by decide)
  obtain ⟨b494, g494⟩ : ∃ z, z = h183.size := ⟨_, rfl⟩
  rw [← g494] at A494 st494
  have C495 : CHr Z EL1 s.vm h0 T183.vm h494 := C184.trans (CHr.ext E494 C184.1)
  have sz494 : h183.size ≤ h494.size := E494.1
  have nz494 := Nat.le_trans nz183 sz494
  have lt494 := ltA A494.lt
  have V494 : Arv Z h494 b494 k494 .char (6 : Int32) [(.int 0), (.int 0), (.int 0), (.int 0), (.int 0), (.int 0)] (.int 0) := (Arv.new A494 (by decide)).pad (pad_rep [] (.int 0) 6)
  -- pc 111: KindNamedPinLaw.at by rm_at
  have f497 : Old Z n0 h494 := ((O0.keep K183 all0).ext E494)
  have f498 : Exa Z h494 r_183 kS0 := (p183_0.ext E494)
  have f499 : Fld Z h494 r_183 kS0 "coder" "B" (.int 0) := (p183_1.ext E494)
  have f500 : Fld Z h494 r_183 kS0 "value" "[B" (.ref t_183) := (p183_2.ext E494)
  have f501 : Arv Z h494 t_183 k_183 .byte N_183 vs_183 (.int 0) := (p183_3.ext E494)
  obtain ⟨_, _, ⟨T496, L496, k496, n496⟩, -, X496, ⟨Lc496, hQ496, l496, y496, z496⟩, st496⟩ := Jvm.LawKit.callS X494 hx (y := (⟨kS1, "at", kS3⟩ : MethodName)) hown183 (mvT hZ183 (wd hw 14 rfl)) (mvT hZ183 (wd hw 15 rfl)) (mvT hZ183 (wd hw 2 rfl)) (mvT hZ183 (wd hw 16 rfl)) (by decide) (backOf (W := 2) (rm_at l Z a0 hw [] (0 : Int32) uw pp xx p3 p4 p5 r_183 t_183 k_183 N_183 vs_183 cs_183 z0 f0 h494 n0 nz494 f497 f498 f499 f500 f501 (by first | assumption | decide | omega) (by first | assumption | decide | omega) (by first | assumption | decide | omega) (by first | assumption | decide | omega) r183_0 r183_1 r183_2 r183_3 (by decide) rxx qxx) hZ183 (wd hw 16 rfl) (wd hw 2 rfl) (by decide) (by decide)) (g := (mkF m 111 (la17 p0 p1 p2 p3 p4 p5 uw xl r_183 (6 : Int32) pp xx b494) [(.int p5), (.int p4), (.int p3), (.int xx), (.int pp), (.int uw), (.ref r_183), (.int 0), (.int 0), (.ref b494)])) rfl (by rw [hml]; rfl) (argsL := [(.int 0), (.ref r_183), (.int uw), (.int pp), (.int xx), (.int p3), (.int p4), (.int p5)]) (rest := [(.int 0), (.ref b494)]) (lenOf pd_9 rfl) rfl (wz rfl) (hb hby at_111) (fun _ _ => ⟨rfl, e494, (by decide : 3 + 0 ≤ _), (by decide : 46 + 0 ≤ _)⟩)
  dsimp only [Pt.U, Pt.locs, Pt.cells, Pt.slots] at X496 l496 y496 z496 st496 hQ496
  rw [l496, y496, z496] at X496
  obtain ⟨cv_496, rfl, N496q, e496, r496_0, r496_1⟩ := hQ496
  have N496 := Fr.app N186 N496q
  obtain ⟨cl502, Ar502, q502, S502, M502, H502, G502⟩ := id V494
  have hin502 : ¬ ((0 : Int32) < 0 ∨ cl502.slots.size ≤ ((0 : Int32)).toNatClampNeg) := inb_of S502 ⟨by decide, by decide⟩
  obtain ⟨T503, h503, X503, e503, W503, st503⟩ := stC X496 hx hZ183 e496 Ar502 (j := (0 : Int32)) hin502 (g := (mkF m 114 (la17 p0 p1 p2 p3 p4 p5 uw xl r_183 (6 : Int32) pp xx b494) [(.int cv_496), (.int 0), (.ref b494)])) rfl rfl (hb hby at_114)
  have ge504 : n0 ≤ b494 := by omega
  have N503 := Fr.snoc X503 N496 ge504
  have ne505 : b494 ≠ r_183 := Ne.symm (Exa.neArv f498 V494 (wd hw 6 rfl))
  have C506 : CHr Z EL1 s.vm h0 T183.vm h503 := C495.trans (CHr.wr W503 (Safe.arv hZ183.alike V494 (by decide)) C495.1)
  have sz503 : h494.size ≤ h503.size := Nat.le_of_eq W503.size.symm
  have nz503 := Nat.le_trans nz494 sz503
  have V503 : Arv Z h503 b494 k494 .char (6 : Int32) [(.int (nar .char cv_496)), (.int 0), (.int 0), (.int 0), (.int 0), (.int 0)] (.int 0) := Arv.set Ar502 q502 S502 M502 H502 G502 (fits_nar_char _) W503 0 rfl (Nat.le_of_ble_eq_true rfl)
  -- pc 138: KindNamedPinLaw.at by rm_at
  have f508 : Old Z n0 h503 := (f497.wr W503 ge504)
  have f509 : Exa Z h503 r_183 kS0 := (f498.wr W503)
  have f510 : Fld Z h503 r_183 kS0 "coder" "B" (.int 0) := (f499.other W503 (Or.inl (Ne.symm ne505)))
  have f511 : Fld Z h503 r_183 kS0 "value" "[B" (.ref t_183) := (f500.other W503 (Or.inl (Ne.symm ne505)))
  have ne512 : t_183 ≠ b494 := neN (by omega)
  have f513 : Arv Z h503 t_183 k_183 .byte N_183 vs_183 (.int 0) := (f501.other W503 ne512)
  obtain ⟨_, _, ⟨T507, L507, k507, n507⟩, -, X507, ⟨Lc507, hQ507, l507, y507, z507⟩, st507⟩ := Jvm.LawKit.callS X503 hx (y := (⟨kS1, "at", kS3⟩ : MethodName)) hown183 (mvT hZ183 (wd hw 14 rfl)) (mvT hZ183 (wd hw 15 rfl)) (mvT hZ183 (wd hw 2 rfl)) (mvT hZ183 (wd hw 16 rfl)) (by decide) (backOf (W := 2) (rm_at l Z a0 hw [] (1 : Int32) uw pp xx p3 p4 p5 r_183 t_183 k_183 N_183 vs_183 cs_183 z0 f0 h503 n0 nz503 f508 f509 f510 f511 f513 (by first | assumption | decide | omega) (by first | assumption | decide | omega) (by first | assumption | decide | omega) (by first | assumption | decide | omega) r183_0 r183_1 r183_2 r183_3 (by decide) rxx qxx) hZ183 (wd hw 16 rfl) (wd hw 2 rfl) (by decide) (by decide)) (g := (mkF m 138 (la17 p0 p1 p2 p3 p4 p5 uw xl r_183 (6 : Int32) pp xx b494) [(.int p5), (.int p4), (.int p3), (.int xx), (.int pp), (.int uw), (.ref r_183), (.int 1), (.int 1), (.ref b494)])) rfl (by rw [hml]; rfl) (argsL := [(.int 1), (.ref r_183), (.int uw), (.int pp), (.int xx), (.int p3), (.int p4), (.int p5)]) (rest := [(.int 1), (.ref b494)]) (lenOf pd_9 rfl) rfl (wz rfl) (hb hby at_138) (fun _ _ => ⟨rfl, e503, (by decide : 3 + 0 ≤ _), (by decide : 46 + 0 ≤ _)⟩)
  dsimp only [Pt.U, Pt.locs, Pt.cells, Pt.slots] at X507 l507 y507 z507 st507 hQ507
  rw [l507, y507, z507] at X507
  obtain ⟨cv_507, rfl, N507q, e507, r507_0, r507_1⟩ := hQ507
  have N507 := Fr.app N503 N507q
  obtain ⟨cl514, Ar514, q514, S514, M514, H514, G514⟩ := id V503
  have hin514 : ¬ ((1 : Int32) < 0 ∨ cl514.slots.size ≤ ((1 : Int32)).toNatClampNeg) := inb_of S514 ⟨by decide, by decide⟩
  obtain ⟨T515, h515, X515, e515, W515, st515⟩ := stC X507 hx hZ183 e507 Ar514 (j := (1 : Int32)) hin514 (g := (mkF m 141 (la17 p0 p1 p2 p3 p4 p5 uw xl r_183 (6 : Int32) pp xx b494) [(.int cv_507), (.int 1), (.ref b494)])) rfl rfl (hb hby at_141)
  have N515 := Fr.snoc X515 N507 ge504
  have C516 : CHr Z EL1 s.vm h0 T183.vm h515 := C506.trans (CHr.wr W515 (Safe.arv hZ183.alike V503 (by decide)) C506.1)
  have sz515 : h503.size ≤ h515.size := Nat.le_of_eq W515.size.symm
  have nz515 := Nat.le_trans nz503 sz515
  have V515 : Arv Z h515 b494 k494 .char (6 : Int32) [(.int (nar .char cv_496)), (.int (nar .char cv_507)), (.int 0), (.int 0), (.int 0), (.int 0)] (.int 0) := Arv.set Ar514 q514 S514 M514 H514 G514 (fits_nar_char _) W515 1 rfl (Nat.le_of_ble_eq_true rfl)
  -- pc 165: KindNamedPinLaw.at by rm_at
  have f518 : Old Z n0 h515 := (f508.wr W515 ge504)
  have f519 : Exa Z h515 r_183 kS0 := (f509.wr W515)
  have f520 : Fld Z h515 r_183 kS0 "coder" "B" (.int 0) := (f510.other W515 (Or.inl (Ne.symm ne505)))
  have f521 : Fld Z h515 r_183 kS0 "value" "[B" (.ref t_183) := (f511.other W515 (Or.inl (Ne.symm ne505)))
  have f522 : Arv Z h515 t_183 k_183 .byte N_183 vs_183 (.int 0) := (f513.other W515 ne512)
  obtain ⟨_, _, ⟨T517, L517, k517, n517⟩, -, X517, ⟨Lc517, hQ517, l517, y517, z517⟩, st517⟩ := Jvm.LawKit.callS X515 hx (y := (⟨kS1, "at", kS3⟩ : MethodName)) hown183 (mvT hZ183 (wd hw 14 rfl)) (mvT hZ183 (wd hw 15 rfl)) (mvT hZ183 (wd hw 2 rfl)) (mvT hZ183 (wd hw 16 rfl)) (by decide) (backOf (W := 2) (rm_at l Z a0 hw [] (2 : Int32) uw pp xx p3 p4 p5 r_183 t_183 k_183 N_183 vs_183 cs_183 z0 f0 h515 n0 nz515 f518 f519 f520 f521 f522 (by first | assumption | decide | omega) (by first | assumption | decide | omega) (by first | assumption | decide | omega) (by first | assumption | decide | omega) r183_0 r183_1 r183_2 r183_3 (by decide) rxx qxx) hZ183 (wd hw 16 rfl) (wd hw 2 rfl) (by decide) (by decide)) (g := (mkF m 165 (la17 p0 p1 p2 p3 p4 p5 uw xl r_183 (6 : Int32) pp xx b494) [(.int p5), (.int p4), (.int p3), (.int xx), (.int pp), (.int uw), (.ref r_183), (.int 2), (.int 2), (.ref b494)])) rfl (by rw [hml]; rfl) (argsL := [(.int 2), (.ref r_183), (.int uw), (.int pp), (.int xx), (.int p3), (.int p4), (.int p5)]) (rest := [(.int 2), (.ref b494)]) (lenOf pd_9 rfl) rfl (wz rfl) (hb hby at_165) (fun _ _ => ⟨rfl, e515, (by decide : 3 + 0 ≤ _), (by decide : 46 + 0 ≤ _)⟩)
  dsimp only [Pt.U, Pt.locs, Pt.cells, Pt.slots] at X517 l517 y517 z517 st517 hQ517
  rw [l517, y517, z517] at X517
  obtain ⟨cv_517, rfl, N517q, e517, r517_0, r517_1⟩ := hQ517
  have N517 := Fr.app N515 N517q
  obtain ⟨cl523, Ar523, q523, S523, M523, H523, G523⟩ := id V515
  have hin523 : ¬ ((2 : Int32) < 0 ∨ cl523.slots.size ≤ ((2 : Int32)).toNatClampNeg) := inb_of S523 ⟨by decide, by decide⟩
  obtain ⟨T524, h524, X524, e524, W524, st524⟩ := stC X517 hx hZ183 e517 Ar523 (j := (2 : Int32)) hin523 (g := (mkF m 168 (la17 p0 p1 p2 p3 p4 p5 uw xl r_183 (6 : Int32) pp xx b494) [(.int cv_517), (.int 2), (.ref b494)])) rfl rfl (hb hby at_168)
  have N524 := Fr.snoc X524 N517 ge504
  have C525 : CHr Z EL1 s.vm h0 T183.vm h524 := C516.trans (CHr.wr W524 (Safe.arv hZ183.alike V515 (by decide)) C516.1)
  have sz524 : h515.size ≤ h524.size := Nat.le_of_eq W524.size.symm
  have nz524 := Nat.le_trans nz515 sz524
  have V524 : Arv Z h524 b494 k494 .char (6 : Int32) [(.int (nar .char cv_496)), (.int (nar .char cv_507)), (.int (nar .char cv_517)), (.int 0), (.int 0), (.int 0)] (.int 0) := Arv.set Ar523 q523 S523 M523 H523 G523 (fits_nar_char _) W524 2 rfl (Nat.le_of_ble_eq_true rfl)
  -- pc 192: KindNamedPinLaw.at by rm_at
  have f527 : Old Z n0 h524 := (f518.wr W524 ge504)
  have f528 : Exa Z h524 r_183 kS0 := (f519.wr W524)
  have f529 : Fld Z h524 r_183 kS0 "coder" "B" (.int 0) := (f520.other W524 (Or.inl (Ne.symm ne505)))
  have f530 : Fld Z h524 r_183 kS0 "value" "[B" (.ref t_183) := (f521.other W524 (Or.inl (Ne.symm ne505)))
  have f531 : Arv Z h524 t_183 k_183 .byte N_183 vs_183 (.int 0) := (f522.other W524 ne512)
  obtain ⟨_, _, ⟨T526, L526, k526, n526⟩, -, X526, ⟨Lc526, hQ526, l526, y526, z526⟩, st526⟩ := Jvm.LawKit.callS X524 hx (y := (⟨kS1, "at", kS3⟩ : MethodName)) hown183 (mvT hZ183 (wd hw 14 rfl)) (mvT hZ183 (wd hw 15 rfl)) (mvT hZ183 (wd hw 2 rfl)) (mvT hZ183 (wd hw 16 rfl)) (by decide) (backOf (W := 2) (rm_at l Z a0 hw [] (3 : Int32) uw pp xx p3 p4 p5 r_183 t_183 k_183 N_183 vs_183 cs_183 z0 f0 h524 n0 nz524 f527 f528 f529 f530 f531 (by first | assumption | decide | omega) (by first | assumption | decide | omega) (by first | assumption | decide | omega) (by first | assumption | decide | omega) r183_0 r183_1 r183_2 r183_3 (by decide) rxx qxx) hZ183 (wd hw 16 rfl) (wd hw 2 rfl) (by decide) (by decide)) (g := (mkF m 192 (la17 p0 p1 p2 p3 p4 p5 uw xl r_183 (6 : Int32) pp xx b494) [(.int p5), (.int p4), (.int p3), (.int xx), (.int pp), (.int uw), (.ref r_183), (.int 3), (.int 3), (.ref b494)])) rfl (by rw [hml]; rfl) (argsL := [(.int 3), (.ref r_183), (.int uw), (.int pp), (.int xx), (.int p3), (.int p4), (.int p5)]) (rest := [(.int 3), (.ref b494)]) (lenOf pd_9 rfl) rfl (wz rfl) (hb hby at_192) (fun _ _ => ⟨rfl, e524, (by decide : 3 + 0 ≤ _), (by decide : 46 + 0 ≤ _)⟩)
  dsimp only [Pt.U, Pt.locs, Pt.cells, Pt.slots] at X526 l526 y526 z526 st526 hQ526
  rw [l526, y526, z526] at X526
  obtain ⟨cv_526, rfl, N526q, e526, r526_0, r526_1⟩ := hQ526
  have N526 := Fr.app N524 N526q
  obtain ⟨cl532, Ar532, q532, S532, M532, H532, G532⟩ := id V524
  have hin532 : ¬ ((3 : Int32) < 0 ∨ cl532.slots.size ≤ ((3 : Int32)).toNatClampNeg) := inb_of S532 ⟨by decide, by decide⟩
  obtain ⟨T533, h533, X533, e533, W533, st533⟩ := stC X526 hx hZ183 e526 Ar532 (j := (3 : Int32)) hin532 (g := (mkF m 195 (la17 p0 p1 p2 p3 p4 p5 uw xl r_183 (6 : Int32) pp xx b494) [(.int cv_526), (.int 3), (.ref b494)])) rfl rfl (hb hby at_195)
  have N533 := Fr.snoc X533 N526 ge504
  have C534 : CHr Z EL1 s.vm h0 T183.vm h533 := C525.trans (CHr.wr W533 (Safe.arv hZ183.alike V524 (by decide)) C525.1)
  have sz533 : h524.size ≤ h533.size := Nat.le_of_eq W533.size.symm
  have nz533 := Nat.le_trans nz524 sz533
  have V533 : Arv Z h533 b494 k494 .char (6 : Int32) [(.int (nar .char cv_496)), (.int (nar .char cv_507)), (.int (nar .char cv_517)), (.int (nar .char cv_526)), (.int 0), (.int 0)] (.int 0) := Arv.set Ar532 q532 S532 M532 H532 G532 (fits_nar_char _) W533 3 rfl (Nat.le_of_ble_eq_true rfl)
  -- pc 219: KindNamedPinLaw.at by rm_at
  have f536 : Old Z n0 h533 := (f527.wr W533 ge504)
  have f537 : Exa Z h533 r_183 kS0 := (f528.wr W533)
  have f538 : Fld Z h533 r_183 kS0 "coder" "B" (.int 0) := (f529.other W533 (Or.inl (Ne.symm ne505)))
  have f539 : Fld Z h533 r_183 kS0 "value" "[B" (.ref t_183) := (f530.other W533 (Or.inl (Ne.symm ne505)))
  have f540 : Arv Z h533 t_183 k_183 .byte N_183 vs_183 (.int 0) := (f531.other W533 ne512)
  obtain ⟨_, _, ⟨T535, L535, k535, n535⟩, -, X535, ⟨Lc535, hQ535, l535, y535, z535⟩, st535⟩ := Jvm.LawKit.callS X533 hx (y := (⟨kS1, "at", kS3⟩ : MethodName)) hown183 (mvT hZ183 (wd hw 14 rfl)) (mvT hZ183 (wd hw 15 rfl)) (mvT hZ183 (wd hw 2 rfl)) (mvT hZ183 (wd hw 16 rfl)) (by decide) (backOf (W := 2) (rm_at l Z a0 hw [] (4 : Int32) uw pp xx p3 p4 p5 r_183 t_183 k_183 N_183 vs_183 cs_183 z0 f0 h533 n0 nz533 f536 f537 f538 f539 f540 (by first | assumption | decide | omega) (by first | assumption | decide | omega) (by first | assumption | decide | omega) (by first | assumption | decide | omega) r183_0 r183_1 r183_2 r183_3 (by decide) rxx qxx) hZ183 (wd hw 16 rfl) (wd hw 2 rfl) (by decide) (by decide)) (g := (mkF m 219 (la17 p0 p1 p2 p3 p4 p5 uw xl r_183 (6 : Int32) pp xx b494) [(.int p5), (.int p4), (.int p3), (.int xx), (.int pp), (.int uw), (.ref r_183), (.int 4), (.int 4), (.ref b494)])) rfl (by rw [hml]; rfl) (argsL := [(.int 4), (.ref r_183), (.int uw), (.int pp), (.int xx), (.int p3), (.int p4), (.int p5)]) (rest := [(.int 4), (.ref b494)]) (lenOf pd_9 rfl) rfl (wz rfl) (hb hby at_219) (fun _ _ => ⟨rfl, e533, (by decide : 3 + 0 ≤ _), (by decide : 46 + 0 ≤ _)⟩)
  dsimp only [Pt.U, Pt.locs, Pt.cells, Pt.slots] at X535 l535 y535 z535 st535 hQ535
  rw [l535, y535, z535] at X535
  obtain ⟨cv_535, rfl, N535q, e535, r535_0, r535_1⟩ := hQ535
  have N535 := Fr.app N533 N535q
  obtain ⟨cl541, Ar541, q541, S541, M541, H541, G541⟩ := id V533
  have hin541 : ¬ ((4 : Int32) < 0 ∨ cl541.slots.size ≤ ((4 : Int32)).toNatClampNeg) := inb_of S541 ⟨by decide, by decide⟩
  obtain ⟨T542, h542, X542, e542, W542, st542⟩ := stC X535 hx hZ183 e535 Ar541 (j := (4 : Int32)) hin541 (g := (mkF m 222 (la17 p0 p1 p2 p3 p4 p5 uw xl r_183 (6 : Int32) pp xx b494) [(.int cv_535), (.int 4), (.ref b494)])) rfl rfl (hb hby at_222)
  have N542 := Fr.snoc X542 N535 ge504
  have C543 : CHr Z EL1 s.vm h0 T183.vm h542 := C534.trans (CHr.wr W542 (Safe.arv hZ183.alike V533 (by decide)) C534.1)
  have sz542 : h533.size ≤ h542.size := Nat.le_of_eq W542.size.symm
  have nz542 := Nat.le_trans nz533 sz542
  have V542 : Arv Z h542 b494 k494 .char (6 : Int32) [(.int (nar .char cv_496)), (.int (nar .char cv_507)), (.int (nar .char cv_517)), (.int (nar .char cv_526)), (.int (nar .char cv_535)), (.int 0)] (.int 0) := Arv.set Ar541 q541 S541 M541 H541 G541 (fits_nar_char _) W542 4 rfl (Nat.le_of_ble_eq_true rfl)
  -- pc 246: KindNamedPinLaw.at by rm_at
  have f545 : Old Z n0 h542 := (f536.wr W542 ge504)
  have f546 : Exa Z h542 r_183 kS0 := (f537.wr W542)
  have f547 : Fld Z h542 r_183 kS0 "coder" "B" (.int 0) := (f538.other W542 (Or.inl (Ne.symm ne505)))
  have f548 : Fld Z h542 r_183 kS0 "value" "[B" (.ref t_183) := (f539.other W542 (Or.inl (Ne.symm ne505)))
  have f549 : Arv Z h542 t_183 k_183 .byte N_183 vs_183 (.int 0) := (f540.other W542 ne512)
  obtain ⟨_, _, ⟨T544, L544, k544, n544⟩, -, X544, ⟨Lc544, hQ544, l544, y544, z544⟩, st544⟩ := Jvm.LawKit.callS X542 hx (y := (⟨kS1, "at", kS3⟩ : MethodName)) hown183 (mvT hZ183 (wd hw 14 rfl)) (mvT hZ183 (wd hw 15 rfl)) (mvT hZ183 (wd hw 2 rfl)) (mvT hZ183 (wd hw 16 rfl)) (by decide) (backOf (W := 2) (rm_at l Z a0 hw [] (5 : Int32) uw pp xx p3 p4 p5 r_183 t_183 k_183 N_183 vs_183 cs_183 z0 f0 h542 n0 nz542 f545 f546 f547 f548 f549 (by first | assumption | decide | omega) (by first | assumption | decide | omega) (by first | assumption | decide | omega) (by first | assumption | decide | omega) r183_0 r183_1 r183_2 r183_3 (by decide) rxx qxx) hZ183 (wd hw 16 rfl) (wd hw 2 rfl) (by decide) (by decide)) (g := (mkF m 246 (la17 p0 p1 p2 p3 p4 p5 uw xl r_183 (6 : Int32) pp xx b494) [(.int p5), (.int p4), (.int p3), (.int xx), (.int pp), (.int uw), (.ref r_183), (.int 5), (.int 5), (.ref b494)])) rfl (by rw [hml]; rfl) (argsL := [(.int 5), (.ref r_183), (.int uw), (.int pp), (.int xx), (.int p3), (.int p4), (.int p5)]) (rest := [(.int 5), (.ref b494)]) (lenOf pd_9 rfl) rfl (wz rfl) (hb hby at_246) (fun _ _ => ⟨rfl, e542, (by decide : 3 + 0 ≤ _), (by decide : 46 + 0 ≤ _)⟩)
  dsimp only [Pt.U, Pt.locs, Pt.cells, Pt.slots] at X544 l544 y544 z544 st544 hQ544
  rw [l544, y544, z544] at X544
  obtain ⟨cv_544, rfl, N544q, e544, r544_0, r544_1⟩ := hQ544
  have N544 := Fr.app N542 N544q
  obtain ⟨cl550, Ar550, q550, S550, M550, H550, G550⟩ := id V542
  have hin550 : ¬ ((5 : Int32) < 0 ∨ cl550.slots.size ≤ ((5 : Int32)).toNatClampNeg) := inb_of S550 ⟨by decide, by decide⟩
  obtain ⟨T551, h551, X551, e551, W551, st551⟩ := stC X544 hx hZ183 e544 Ar550 (j := (5 : Int32)) hin550 (g := (mkF m 249 (la17 p0 p1 p2 p3 p4 p5 uw xl r_183 (6 : Int32) pp xx b494) [(.int cv_544), (.int 5), (.ref b494)])) rfl rfl (hb hby at_249)
  have N551 := Fr.snoc X551 N544 ge504
  have C552 : CHr Z EL1 s.vm h0 T183.vm h551 := C543.trans (CHr.wr W551 (Safe.arv hZ183.alike V542 (by decide)) C543.1)
  have sz551 : h542.size ≤ h551.size := Nat.le_of_eq W551.size.symm
  have nz551 := Nat.le_trans nz542 sz551
  have V551 : Arv Z h551 b494 k494 .char (6 : Int32) [(.int (nar .char cv_496)), (.int (nar .char cv_507)), (.int (nar .char cv_517)), (.int (nar .char cv_526)), (.int (nar .char cv_535)), (.int (nar .char cv_544))] (.int 0) := Arv.set Ar550 q550 S550 M550 H550 G550 (fits_nar_char _) W551 5 rfl (Nat.le_of_ble_eq_true rfl)
  have V553 : Arv Z h551 b494 k494 .char (6 : Int32) [(.int cv_496), (.int cv_507), (.int cv_517), (.int cv_526), (.int cv_535), (.int cv_544)] (.int 0) := by
   have q := V551
   rw [r496_1, r507_1, r517_1, r526_1, r535_1, r544_1] at q
   exact q
  obtain ⟨T554, h554, X554, e554, E554, A554, D554, U554, st554⟩ := newO X551 hx hZ183 hown183 (wd hw 20 rfl) (wd hw 6 rfl) (wd hw 5 rfl) e551 (g := (mkF m 370 (la17 p0 p1 p2 p3 p4 p5 uw xl r_183 (6 : Int32) pp xx b494) [])) rfl (hb hby at_370) (by decide) (by decide)
  obtain ⟨b554, g554⟩ : ∃ z, z = h551.size := ⟨_, rfl⟩
  rw [← g554] at A554 D554 U554 st554
  have C555 : CHr Z EL1 s.vm h0 T183.vm h554 := C552.trans (CHr.ext E554 C552.1)
  have sz554 : h551.size ≤ h554.size := E554.1
  have nz554 := Nat.le_trans nz551 sz554
  have lt554 := ltA A554.lt
  have B554 : Safe Z EL1 T183.vm h554 b554 := Safe.ext E554 C552.1 (Safe.new (by omega))
  have f556 : Fld Z h554 b554 kS0 "value" "[B" .null := D554 (Or.inr (wd hw 8 rfl)) (ty := (.array .byte)) (by decide)
  have f557 : Fld Z h554 b554 kS0 "coder" "B" (.int 0) := D554 (Or.inr (wd hw 9 rfl)) (ty := .byte) (by decide)
  have f558 : Arv Z h554 b494 k494 .char (6 : Int32) [(.int cv_496), (.int cv_507), (.int cv_517), (.int cv_526), (.int cv_535), (.int cv_544)] (.int 0) := (V553.ext E554)
  have f559 : Old Z n0 h554 := ((f545.wr W551 ge504).ext E554)
  have S560 : Sta Z h554 kS0 "COMPACT_STRINGS" "Z" (.int z0) := SZc.ext f559.2
  obtain ⟨v561, _, ⟨T561, L561, k561, n561⟩, -, X561, ⟨Lc561, hQ561, l561, y561, z561⟩, st561⟩ := X554.specialBack hx (y := (⟨kS0, "<init>", "([C)V"⟩ : MethodName)) rfl hown183 (mvT hZ183 (wd hw 21 rfl)) (mvT hZ183 (wd hw 22 rfl)) (mvT hZ183 (wd hw 23 rfl)) (by decide) (StrChars.Road.backV (W := 1) hZ183 (own_hws hw) (kI := 4) (wd hw 6 rfl) (cs := ([cv_496, cv_507, cv_517, cv_526, cv_535, cv_544] : List Int32)) (bs := ([cv_496, cv_507, cv_517, cv_526, cv_535, cv_544] : List Int32).map (fun c => c.toInt8.toInt32)) (n := 6) (n0 := n0) (by omega) (by omega) A554 f556 f557 f558 S560 hz0 rfl rfl (by decide) (by decide) (own_allS r496_0 (own_allS r507_0 (own_allS r517_0 (own_allS r526_0 (own_allS r535_0 (own_allS r544_0 own_all0)))))) rfl (by decide) (by decide)) (g := (mkF m 376 (la17 p0 p1 p2 p3 p4 p5 uw xl r_183 (6 : Int32) pp xx b494) [(.ref b494), (.ref b554), (.ref b554)])) rfl (by rw [hml]; rfl) (Steps.refl _) (a := b554) (argsL := [(.ref b494)]) (rest := [(.ref b554)]) (lenOf pd_7 rfl) rfl (wz rfl) (hb hby at_376) (fun _ _ => ⟨rfl, e554, (by decide : 4 + 1 ≤ _), (by decide : 50 + 6 ≤ _)⟩)
  dsimp only [Pt.U, Pt.locs, Pt.cells, Pt.slots] at X561 l561 y561 z561 st561 hQ561
  rw [l561, y561, z561] at X561
  obtain ⟨h561, e561⟩ : ∃ z, T561.heap = z := ⟨_, rfl⟩
  rw [e561] at hQ561
  obtain ⟨rfl, N561q, K561, A561, Fc561, t561, kb561, u561, lo561, nt561, Fv561, V561⟩ := hQ561
  have N561 := Fr.app N551 N561q
  have f562 : Arv Z h554 t_183 k_183 .byte N_183 vs_183 (.int 0) := ((f549.other W551 ne512).ext E554)
  have ne563 : b554 ≠ t_183 := Exa.neArv A554 f562 (wd hw 6 rfl)
  have C564 : CHr Z EL1 s.vm h0 T183.vm h561 := C555.trans (CHr.keep K561 (sfS B554 sf0) C555.1)
  have sz561 : h554.size ≤ h561.size := K561.1
  have nz561 := Nat.le_trans nz554 sz561
  have lt561 := ltA V561.lt
  have hcd561 : StrChars.Road.CodA ([cv_496, cv_507, cv_517, cv_526, cv_535, cv_544] : List Int32) 0 (6 : Int32) ((([cv_496, cv_507, cv_517, cv_526, cv_535, cv_544] : List Int32).map (fun c => c.toInt8.toInt32)).map Value.int) := own_codn rfl (fun c hc => ((own_allS r496_0 (own_allS r507_0 (own_allS r517_0 (own_allS r526_0 (own_allS r535_0 (own_allS r544_0 own_all0)))))) c hc).2)
  -- pc 383: Kind.named by rm_named
  have ge566 : n0 ≤ b554 := by omega
  have f567 : Old Z n0 h561 := (f559.keep K561 (allS ge566 all0))
  obtain ⟨_, _, ⟨T565, L565, k565, n565⟩, -, X565, ⟨Lc565, hQ565, l565, y565, z565⟩, st565⟩ := Jvm.LawKit.callS X561 hx (y := (⟨"com/example/rolegrant/rolegrant/policy/Kind", "named", kS2⟩ : MethodName)) hown183 (mvT hZ183 (wd hw 44 rfl)) (mvT hZ183 (wd hw 45 rfl)) (mvT hZ183 (wd hw 46 rfl)) (mvT hZ183 (wd hw 47 rfl)) (by decide) (backOf (W := 0) (rm_named l Z a0 hw [] b554 t561 kb561 (6 : Int32) ((([cv_496, cv_507, cv_517, cv_526, cv_535, cv_544] : List Int32).map (fun c => c.toInt8.toInt32)).map Value.int) ([cv_496, cv_507, cv_517, cv_526, cv_535, cv_544] : List Int32) z0 va u0 u1 u2 u3 w0 w1 w2 w3 y0 y1 y2 y3 kV b0 b1 b2 b3 h561 n0 nz561 f567 A561 Fc561 Fv561 V561 (by first | assumption | decide | omega) (by first | assumption | decide | omega) hcd561 (own_up (own_allS r496_0 (own_allS r507_0 (own_allS r517_0 (own_allS r526_0 (own_allS r535_0 (own_allS r544_0 own_all0))))))) (Nat.le_of_ble_eq_true rfl) (by first | assumption | decide | omega)) hZ183 (wd hw 47 rfl) (wd hw 46 rfl) (by decide) (by decide)) (g := (mkF m 383 (la18 p0 p1 p2 p3 p4 p5 uw xl r_183 (6 : Int32) pp xx b494 b554) [(.ref b554)])) rfl (by rw [hml]; rfl) (argsL := [(.ref b554)]) (rest := []) (lenOf pd_8 rfl) rfl (wz rfl) (hb hby at_383) (fun _ _ => ⟨rfl, e561, (by decide : 5 + 1 ≤ _), (by decide : 56 + 4 ≤ _)⟩)
  dsimp only [Pt.U, Pt.locs, Pt.cells, Pt.slots] at X565 l565 y565 z565 st565 hQ565
  rw [l565, y565, z565] at X565
  obtain ⟨h565, e565⟩ : ∃ z, T565.heap = z := ⟨_, rfl⟩
  rw [e565] at hQ565
  obtain ⟨rfl, N565q, K565⟩ := hQ565
  have N565 := Fr.app N561 N565q
  have C568 : CHr Z EL1 s.vm h0 T183.vm h565 := C564.trans (CHr.keep K565 sf0 C564.1)
  have sz565 : h561.size ≤ h565.size := K565.1
  have nz565 := Nat.le_trans nz561 sz565
  -- pc 388: KindNamedPinLaw.expected by rm_exp
  have f570 : Old Z n0 h565 := (f567.keep K565 all0)
  have f571 : Exa Z h565 b554 kS0 := (A561.keep K565)
  have f572 : Fld Z h565 b554 kS0 "coder" "B" (.int 0) := (Fc561.keep K565 nin0)
  have f573 : Fld Z h565 b554 kS0 "value" "[B" (.ref t561) := (Fv561.keep K565 nin0)
  have f574 : Arv Z h565 t561 kb561 .byte (6 : Int32) ((([cv_496, cv_507, cv_517, cv_526, cv_535, cv_544] : List Int32).map (fun c => c.toInt8.toInt32)).map Value.int) (.int 0) := (V561.keep K565 nin0)
  obtain ⟨_, _, ⟨T569, L569, k569, n569⟩, -, X569w, hS569w, gr569, ⟨Lc569, hQ569, l569, y569, z569, C569w⟩, st569⟩ := callSS X565 hx (y := (⟨kS1, "expected", kS2⟩ : MethodName)) hown183 (mvT hZ183 (wd hw 79 rfl)) (mvT hZ183 (wd hw 80 rfl)) (mvT hZ183 (wd hw 2 rfl)) (mvT hZ183 (wd hw 81 rfl)) (by decide) (own_backS (W := 1) (rm_exp l Z a0 hw [] b554 t561 kb561 (6 : Int32) ((([cv_496, cv_507, cv_517, cv_526, cv_535, cv_544] : List Int32).map (fun c => c.toInt8.toInt32)).map Value.int) ([cv_496, cv_507, cv_517, cv_526, cv_535, cv_544] : List Int32) z0 va u0 u1 u2 u3 w0 w1 w2 w3 y0 y1 y2 y3 kV b0 b1 b2 b3 h565 n0 nz565 f570 f571 f572 f573 f574 (by first | assumption | decide | omega) (by first | assumption | decide | omega) hcd561 (own_up (own_allS r496_0 (own_allS r507_0 (own_allS r517_0 (own_allS r526_0 (own_allS r535_0 (own_allS r544_0 own_all0))))))) (Nat.le_of_ble_eq_true rfl) (by first | assumption | decide | omega)) hZ183 (wd hw 81 rfl) (wd hw 2 rfl) (by decide) (by decide) (own_EW hw) C568.1 sf0 all0) (g := (mkF m 388 (la18 p0 p1 p2 p3 p4 p5 uw xl r_183 (6 : Int32) pp xx b494 b554) [(.ref b554), (own_pick ([cv_496, cv_507, cv_517, cv_526, cv_535, cv_544] : List Int32) u0 u1 u2 u3)])) rfl (by rw [hml]; rfl) (argsL := [(.ref b554)]) (rest := [(own_pick ([cv_496, cv_507, cv_517, cv_526, cv_535, cv_544] : List Int32) u0 u1 u2 u3)]) (lenOf pd_8 rfl) rfl (own_wx _ _ _ _ _) (hb hby at_388) (fun _ _ => ⟨rfl, e565, (by decide : 6 + 8 ≤ _), (by decide : 60 + 104 ≤ _)⟩)
  dsimp only [Pt.U, Pt.locs, Pt.cells, Pt.slots] at X569w hS569w gr569 l569 y569 z569 st569 hQ569 C569w
  rw [l569, y569, z569] at X569w
  obtain ⟨X569, hS569, hZ569, hown569⟩ := rebS hS183 (by rw [e565]; omega) X569w hS569w gr569 hZ183 hown183
  obtain ⟨h569, e569⟩ : ∃ z, T569.heap = z := ⟨_, rfl⟩
  rw [e569] at hQ569
  obtain ⟨rfl, N569q, K569⟩ := hQ569
  have N569 := Fr.app N565 N569q
  rw [e569] at C569w hS569
  have hk569 : h569.size ≤ h569.size := Nat.le_refl _
  have C575 : CHr Z EL1 s.vm h0 T569.vm h569 := C568.trans (C569w)
  have sz569 : h565.size ≤ h569.size := K569.1
  have nz569 := Nat.le_trans nz565 sz569
  obtain ⟨fs, hr, hrun, hended, hE⟩ := X569.leaveW hS569 (by rw [e569]; omega) (v := some (.int 1)) (fun h => by rw [Bd.returns] at h; cases h)
  have CE := C575.trans (CHv.at X569 hZ569 (own_EW hw) C575.1)
  refine ⟨_, _, pre196 _ ?_, hrun, hended, _, _, rfl, ?_, ?_, ⟨hE.1, hE.2.1, hE.2.2.1, hE.2.2.2.mono (by decide) (by decide)⟩⟩
  ·show GO p e below T186 (mkF m 83 (la16 p0 p1 p2 p3 p4 p5 uw xl r_183 (6 : Int32) pp xx) []) _
   refine XS.iload X186.here hx rfl (hb hby at_83) rfl ?_
   show GO p e below T186 (mkF m 85 (la16 p0 p1 p2 p3 p4 p5 uw xl r_183 (6 : Int32) pp xx) [(.int 6)]) _
   refine st494 _ ?_
   show GO p e below T494 (mkF m 87 (la16 p0 p1 p2 p3 p4 p5 uw xl r_183 (6 : Int32) pp xx) [(.ref b494)]) _
   refine XS.astore X494.here hx rfl (hb hby at_87) rfl rfl (l' := (la17 p0 p1 p2 p3 p4 p5 uw xl r_183 (6 : Int32) pp xx b494)) rfl ?_
   show GO p e below T494 (mkF m 89 (la17 p0 p1 p2 p3 p4 p5 uw xl r_183 (6 : Int32) pp xx b494) []) _
   refine XS.iload X494.here hx rfl (hb hby at_89) rfl ?_
   show GO p e below T494 (mkF m 91 (la17 p0 p1 p2 p3 p4 p5 uw xl r_183 (6 : Int32) pp xx b494) [(.int 6)]) _
   refine XS.ifNo X494.here hx rfl (hb hby at_91) rfl ((if0 _ _).trans (tlt ((by decide) : (0 : Int32) < (6 : Int32))).2.2.2) ?_
   show GO p e below T494 (mkF m 94 (la17 p0 p1 p2 p3 p4 p5 uw xl r_183 (6 : Int32) pp xx b494) []) _
   refine XS.aload X494.here hx rfl (hb hby at_94) rfl rfl ?_
   show GO p e below T494 (mkF m 96 (la17 p0 p1 p2 p3 p4 p5 uw xl r_183 (6 : Int32) pp xx b494) [(.ref b494)]) _
   refine XS.iconst X494.here hx rfl (hb hby at_96) ?_
   show GO p e below T494 (mkF m 97 (la17 p0 p1 p2 p3 p4 p5 uw xl r_183 (6 : Int32) pp xx b494) [(.int 0), (.ref b494)]) _
   refine XS.iconst X494.here hx rfl (hb hby at_97) ?_
   show GO p e below T494 (mkF m 98 (la17 p0 p1 p2 p3 p4 p5 uw xl r_183 (6 : Int32) pp xx b494) [(.int 0), (.int 0), (.ref b494)]) _
   refine XS.aload X494.here hx rfl (hb hby at_98) rfl rfl ?_
   show GO p e below T494 (mkF m 100 (la17 p0 p1 p2 p3 p4 p5 uw xl r_183 (6 : Int32) pp xx b494) [(.ref r_183), (.int 0), (.int 0), (.ref b494)]) _
   refine XS.iload X494.here hx rfl (hb hby at_100) rfl ?_
   show GO p e below T494 (mkF m 102 (la17 p0 p1 p2 p3 p4 p5 uw xl r_183 (6 : Int32) pp xx b494) [(.int uw), (.ref r_183), (.int 0), (.int 0), (.ref b494)]) _
   refine XS.iload X494.here hx rfl (hb hby at_102) rfl ?_
   show GO p e below T494 (mkF m 104 (la17 p0 p1 p2 p3 p4 p5 uw xl r_183 (6 : Int32) pp xx b494) [(.int pp), (.int uw), (.ref r_183), (.int 0), (.int 0), (.ref b494)]) _
   refine XS.iload X494.here hx rfl (hb hby at_104) rfl ?_
   show GO p e below T494 (mkF m 106 (la17 p0 p1 p2 p3 p4 p5 uw xl r_183 (6 : Int32) pp xx b494) [(.int xx), (.int pp), (.int uw), (.ref r_183), (.int 0), (.int 0), (.ref b494)]) _
   refine XS.iloadN X494.here hx rfl (hb hby at_106) rfl ?_
   show GO p e below T494 (mkF m 107 (la17 p0 p1 p2 p3 p4 p5 uw xl r_183 (6 : Int32) pp xx b494) [(.int p3), (.int xx), (.int pp), (.int uw), (.ref r_183), (.int 0), (.int 0), (.ref b494)]) _
   refine XS.iload X494.here hx rfl (hb hby at_107) rfl ?_
   show GO p e below T494 (mkF m 109 (la17 p0 p1 p2 p3 p4 p5 uw xl r_183 (6 : Int32) pp xx b494) [(.int p4), (.int p3), (.int xx), (.int pp), (.int uw), (.ref r_183), (.int 0), (.int 0), (.ref b494)]) _
   refine XS.iload X494.here hx rfl (hb hby at_109) rfl ?_
   show GO p e below T494 (mkF m 111 (la17 p0 p1 p2 p3 p4 p5 uw xl r_183 (6 : Int32) pp xx b494) [(.int p5), (.int p4), (.int p3), (.int xx), (.int pp), (.int uw), (.ref r_183), (.int 0), (.int 0), (.ref b494)]) _
   refine st496 _ ?_
   show GO p e below T496 (mkF m 114 (la17 p0 p1 p2 p3 p4 p5 uw xl r_183 (6 : Int32) pp xx b494) [(.int cv_496), (.int 0), (.ref b494)]) _
   refine st503 _ ?_
   show GO p e below T503 (mkF m 115 (la17 p0 p1 p2 p3 p4 p5 uw xl r_183 (6 : Int32) pp xx b494) []) _
   refine XS.iload X503.here hx rfl (hb hby at_115) rfl ?_
   show GO p e below T503 (mkF m 117 (la17 p0 p1 p2 p3 p4 p5 uw xl r_183 (6 : Int32) pp xx b494) [(.int 6)]) _
   refine XS.iconst X503.here hx rfl (hb hby at_117) ?_
   show GO p e below T503 (mkF m 118 (la17 p0 p1 p2 p3 p4 p5 uw xl r_183 (6 : Int32) pp xx b494) [(.int 1), (.int 6)]) _
   refine XS.icmpNo X503.here hx rfl (hb hby at_118) rfl (tlt ((by decide) : (1 : Int32) < (6 : Int32))).2.2.2 ?_
   show GO p e below T503 (mkF m 121 (la17 p0 p1 p2 p3 p4 p5 uw xl r_183 (6 : Int32) pp xx b494) []) _
   refine XS.aload X503.here hx rfl (hb hby at_121) rfl rfl ?_
   show GO p e below T503 (mkF m 123 (la17 p0 p1 p2 p3 p4 p5 uw xl r_183 (6 : Int32) pp xx b494) [(.ref b494)]) _
   refine XS.iconst X503.here hx rfl (hb hby at_123) ?_
   show GO p e below T503 (mkF m 124 (la17 p0 p1 p2 p3 p4 p5 uw xl r_183 (6 : Int32) pp xx b494) [(.int 1), (.ref b494)]) _
   refine XS.iconst X503.here hx rfl (hb hby at_124) ?_
   show GO p e below T503 (mkF m 125 (la17 p0 p1 p2 p3 p4 p5 uw xl r_183 (6 : Int32) pp xx b494) [(.int 1), (.int 1), (.ref b494)]) _
   refine XS.aload X503.here hx rfl (hb hby at_125) rfl rfl ?_
   show GO p e below T503 (mkF m 127 (la17 p0 p1 p2 p3 p4 p5 uw xl r_183 (6 : Int32) pp xx b494) [(.ref r_183), (.int 1), (.int 1), (.ref b494)]) _
   refine XS.iload X503.here hx rfl (hb hby at_127) rfl ?_
   show GO p e below T503 (mkF m 129 (la17 p0 p1 p2 p3 p4 p5 uw xl r_183 (6 : Int32) pp xx b494) [(.int uw), (.ref r_183), (.int 1), (.int 1), (.ref b494)]) _
   refine XS.iload X503.here hx rfl (hb hby at_129) rfl ?_
   show GO p e below T503 (mkF m 131 (la17 p0 p1 p2 p3 p4 p5 uw xl r_183 (6 : Int32) pp xx b494) [(.int pp), (.int uw), (.ref r_183), (.int 1), (.int 1), (.ref b494)]) _
   refine XS.iload X503.here hx rfl (hb hby at_131) rfl ?_
   show GO p e below T503 (mkF m 133 (la17 p0 p1 p2 p3 p4 p5 uw xl r_183 (6 : Int32) pp xx b494) [(.int xx), (.int pp), (.int uw), (.ref r_183), (.int 1), (.int 1), (.ref b494)]) _
   refine XS.iloadN X503.here hx rfl (hb hby at_133) rfl ?_
   show GO p e below T503 (mkF m 134 (la17 p0 p1 p2 p3 p4 p5 uw xl r_183 (6 : Int32) pp xx b494) [(.int p3), (.int xx), (.int pp), (.int uw), (.ref r_183), (.int 1), (.int 1), (.ref b494)]) _
   refine XS.iload X503.here hx rfl (hb hby at_134) rfl ?_
   show GO p e below T503 (mkF m 136 (la17 p0 p1 p2 p3 p4 p5 uw xl r_183 (6 : Int32) pp xx b494) [(.int p4), (.int p3), (.int xx), (.int pp), (.int uw), (.ref r_183), (.int 1), (.int 1), (.ref b494)]) _
   refine XS.iload X503.here hx rfl (hb hby at_136) rfl ?_
   show GO p e below T503 (mkF m 138 (la17 p0 p1 p2 p3 p4 p5 uw xl r_183 (6 : Int32) pp xx b494) [(.int p5), (.int p4), (.int p3), (.int xx), (.int pp), (.int uw), (.ref r_183), (.int 1), (.int 1), (.ref b494)]) _
   refine st507 _ ?_
   show GO p e below T507 (mkF m 141 (la17 p0 p1 p2 p3 p4 p5 uw xl r_183 (6 : Int32) pp xx b494) [(.int cv_507), (.int 1), (.ref b494)]) _
   refine st515 _ ?_
   show GO p e below T515 (mkF m 142 (la17 p0 p1 p2 p3 p4 p5 uw xl r_183 (6 : Int32) pp xx b494) []) _
   refine XS.iload X515.here hx rfl (hb hby at_142) rfl ?_
   show GO p e below T515 (mkF m 144 (la17 p0 p1 p2 p3 p4 p5 uw xl r_183 (6 : Int32) pp xx b494) [(.int 6)]) _
   refine XS.iconst X515.here hx rfl (hb hby at_144) ?_
   show GO p e below T515 (mkF m 145 (la17 p0 p1 p2 p3 p4 p5 uw xl r_183 (6 : Int32) pp xx b494) [(.int 2), (.int 6)]) _
   refine XS.icmpNo X515.here hx rfl (hb hby at_145) rfl (tlt ((by decide) : (2 : Int32) < (6 : Int32))).2.2.2 ?_
   show GO p e below T515 (mkF m 148 (la17 p0 p1 p2 p3 p4 p5 uw xl r_183 (6 : Int32) pp xx b494) []) _
   refine XS.aload X515.here hx rfl (hb hby at_148) rfl rfl ?_
   show GO p e below T515 (mkF m 150 (la17 p0 p1 p2 p3 p4 p5 uw xl r_183 (6 : Int32) pp xx b494) [(.ref b494)]) _
   refine XS.iconst X515.here hx rfl (hb hby at_150) ?_
   show GO p e below T515 (mkF m 151 (la17 p0 p1 p2 p3 p4 p5 uw xl r_183 (6 : Int32) pp xx b494) [(.int 2), (.ref b494)]) _
   refine XS.iconst X515.here hx rfl (hb hby at_151) ?_
   show GO p e below T515 (mkF m 152 (la17 p0 p1 p2 p3 p4 p5 uw xl r_183 (6 : Int32) pp xx b494) [(.int 2), (.int 2), (.ref b494)]) _
   refine XS.aload X515.here hx rfl (hb hby at_152) rfl rfl ?_
   show GO p e below T515 (mkF m 154 (la17 p0 p1 p2 p3 p4 p5 uw xl r_183 (6 : Int32) pp xx b494) [(.ref r_183), (.int 2), (.int 2), (.ref b494)]) _
   refine XS.iload X515.here hx rfl (hb hby at_154) rfl ?_
   show GO p e below T515 (mkF m 156 (la17 p0 p1 p2 p3 p4 p5 uw xl r_183 (6 : Int32) pp xx b494) [(.int uw), (.ref r_183), (.int 2), (.int 2), (.ref b494)]) _
   refine XS.iload X515.here hx rfl (hb hby at_156) rfl ?_
   show GO p e below T515 (mkF m 158 (la17 p0 p1 p2 p3 p4 p5 uw xl r_183 (6 : Int32) pp xx b494) [(.int pp), (.int uw), (.ref r_183), (.int 2), (.int 2), (.ref b494)]) _
   refine XS.iload X515.here hx rfl (hb hby at_158) rfl ?_
   show GO p e below T515 (mkF m 160 (la17 p0 p1 p2 p3 p4 p5 uw xl r_183 (6 : Int32) pp xx b494) [(.int xx), (.int pp), (.int uw), (.ref r_183), (.int 2), (.int 2), (.ref b494)]) _
   refine XS.iloadN X515.here hx rfl (hb hby at_160) rfl ?_
   show GO p e below T515 (mkF m 161 (la17 p0 p1 p2 p3 p4 p5 uw xl r_183 (6 : Int32) pp xx b494) [(.int p3), (.int xx), (.int pp), (.int uw), (.ref r_183), (.int 2), (.int 2), (.ref b494)]) _
   refine XS.iload X515.here hx rfl (hb hby at_161) rfl ?_
   show GO p e below T515 (mkF m 163 (la17 p0 p1 p2 p3 p4 p5 uw xl r_183 (6 : Int32) pp xx b494) [(.int p4), (.int p3), (.int xx), (.int pp), (.int uw), (.ref r_183), (.int 2), (.int 2), (.ref b494)]) _
   refine XS.iload X515.here hx rfl (hb hby at_163) rfl ?_
   show GO p e below T515 (mkF m 165 (la17 p0 p1 p2 p3 p4 p5 uw xl r_183 (6 : Int32) pp xx b494) [(.int p5), (.int p4), (.int p3), (.int xx), (.int pp), (.int uw), (.ref r_183), (.int 2), (.int 2), (.ref b494)]) _
   refine st517 _ ?_
   show GO p e below T517 (mkF m 168 (la17 p0 p1 p2 p3 p4 p5 uw xl r_183 (6 : Int32) pp xx b494) [(.int cv_517), (.int 2), (.ref b494)]) _
   refine st524 _ ?_
   show GO p e below T524 (mkF m 169 (la17 p0 p1 p2 p3 p4 p5 uw xl r_183 (6 : Int32) pp xx b494) []) _
   refine XS.iload X524.here hx rfl (hb hby at_169) rfl ?_
   show GO p e below T524 (mkF m 171 (la17 p0 p1 p2 p3 p4 p5 uw xl r_183 (6 : Int32) pp xx b494) [(.int 6)]) _
   refine XS.iconst X524.here hx rfl (hb hby at_171) ?_
   show GO p e below T524 (mkF m 172 (la17 p0 p1 p2 p3 p4 p5 uw xl r_183 (6 : Int32) pp xx b494) [(.int 3), (.int 6)]) _
   refine XS.icmpNo X524.here hx rfl (hb hby at_172) rfl (tlt ((by decide) : (3 : Int32) < (6 : Int32))).2.2.2 ?_
   show GO p e below T524 (mkF m 175 (la17 p0 p1 p2 p3 p4 p5 uw xl r_183 (6 : Int32) pp xx b494) []) _
   refine XS.aload X524.here hx rfl (hb hby at_175) rfl rfl ?_
   show GO p e below T524 (mkF m 177 (la17 p0 p1 p2 p3 p4 p5 uw xl r_183 (6 : Int32) pp xx b494) [(.ref b494)]) _
   refine XS.iconst X524.here hx rfl (hb hby at_177) ?_
   show GO p e below T524 (mkF m 178 (la17 p0 p1 p2 p3 p4 p5 uw xl r_183 (6 : Int32) pp xx b494) [(.int 3), (.ref b494)]) _
   refine XS.iconst X524.here hx rfl (hb hby at_178) ?_
   show GO p e below T524 (mkF m 179 (la17 p0 p1 p2 p3 p4 p5 uw xl r_183 (6 : Int32) pp xx b494) [(.int 3), (.int 3), (.ref b494)]) _
   refine XS.aload X524.here hx rfl (hb hby at_179) rfl rfl ?_
   show GO p e below T524 (mkF m 181 (la17 p0 p1 p2 p3 p4 p5 uw xl r_183 (6 : Int32) pp xx b494) [(.ref r_183), (.int 3), (.int 3), (.ref b494)]) _
   refine XS.iload X524.here hx rfl (hb hby at_181) rfl ?_
   show GO p e below T524 (mkF m 183 (la17 p0 p1 p2 p3 p4 p5 uw xl r_183 (6 : Int32) pp xx b494) [(.int uw), (.ref r_183), (.int 3), (.int 3), (.ref b494)]) _
   refine XS.iload X524.here hx rfl (hb hby at_183) rfl ?_
   show GO p e below T524 (mkF m 185 (la17 p0 p1 p2 p3 p4 p5 uw xl r_183 (6 : Int32) pp xx b494) [(.int pp), (.int uw), (.ref r_183), (.int 3), (.int 3), (.ref b494)]) _
   refine XS.iload X524.here hx rfl (hb hby at_185) rfl ?_
   show GO p e below T524 (mkF m 187 (la17 p0 p1 p2 p3 p4 p5 uw xl r_183 (6 : Int32) pp xx b494) [(.int xx), (.int pp), (.int uw), (.ref r_183), (.int 3), (.int 3), (.ref b494)]) _
   refine XS.iloadN X524.here hx rfl (hb hby at_187) rfl ?_
   show GO p e below T524 (mkF m 188 (la17 p0 p1 p2 p3 p4 p5 uw xl r_183 (6 : Int32) pp xx b494) [(.int p3), (.int xx), (.int pp), (.int uw), (.ref r_183), (.int 3), (.int 3), (.ref b494)]) _
   refine XS.iload X524.here hx rfl (hb hby at_188) rfl ?_
   show GO p e below T524 (mkF m 190 (la17 p0 p1 p2 p3 p4 p5 uw xl r_183 (6 : Int32) pp xx b494) [(.int p4), (.int p3), (.int xx), (.int pp), (.int uw), (.ref r_183), (.int 3), (.int 3), (.ref b494)]) _
   refine XS.iload X524.here hx rfl (hb hby at_190) rfl ?_
   show GO p e below T524 (mkF m 192 (la17 p0 p1 p2 p3 p4 p5 uw xl r_183 (6 : Int32) pp xx b494) [(.int p5), (.int p4), (.int p3), (.int xx), (.int pp), (.int uw), (.ref r_183), (.int 3), (.int 3), (.ref b494)]) _
   refine st526 _ ?_
   show GO p e below T526 (mkF m 195 (la17 p0 p1 p2 p3 p4 p5 uw xl r_183 (6 : Int32) pp xx b494) [(.int cv_526), (.int 3), (.ref b494)]) _
   refine st533 _ ?_
   show GO p e below T533 (mkF m 196 (la17 p0 p1 p2 p3 p4 p5 uw xl r_183 (6 : Int32) pp xx b494) []) _
   refine XS.iload X533.here hx rfl (hb hby at_196) rfl ?_
   show GO p e below T533 (mkF m 198 (la17 p0 p1 p2 p3 p4 p5 uw xl r_183 (6 : Int32) pp xx b494) [(.int 6)]) _
   refine XS.iconst X533.here hx rfl (hb hby at_198) ?_
   show GO p e below T533 (mkF m 199 (la17 p0 p1 p2 p3 p4 p5 uw xl r_183 (6 : Int32) pp xx b494) [(.int 4), (.int 6)]) _
   refine XS.icmpNo X533.here hx rfl (hb hby at_199) rfl (tlt ((by decide) : (4 : Int32) < (6 : Int32))).2.2.2 ?_
   show GO p e below T533 (mkF m 202 (la17 p0 p1 p2 p3 p4 p5 uw xl r_183 (6 : Int32) pp xx b494) []) _
   refine XS.aload X533.here hx rfl (hb hby at_202) rfl rfl ?_
   show GO p e below T533 (mkF m 204 (la17 p0 p1 p2 p3 p4 p5 uw xl r_183 (6 : Int32) pp xx b494) [(.ref b494)]) _
   refine XS.iconst X533.here hx rfl (hb hby at_204) ?_
   show GO p e below T533 (mkF m 205 (la17 p0 p1 p2 p3 p4 p5 uw xl r_183 (6 : Int32) pp xx b494) [(.int 4), (.ref b494)]) _
   refine XS.iconst X533.here hx rfl (hb hby at_205) ?_
   show GO p e below T533 (mkF m 206 (la17 p0 p1 p2 p3 p4 p5 uw xl r_183 (6 : Int32) pp xx b494) [(.int 4), (.int 4), (.ref b494)]) _
   refine XS.aload X533.here hx rfl (hb hby at_206) rfl rfl ?_
   show GO p e below T533 (mkF m 208 (la17 p0 p1 p2 p3 p4 p5 uw xl r_183 (6 : Int32) pp xx b494) [(.ref r_183), (.int 4), (.int 4), (.ref b494)]) _
   refine XS.iload X533.here hx rfl (hb hby at_208) rfl ?_
   show GO p e below T533 (mkF m 210 (la17 p0 p1 p2 p3 p4 p5 uw xl r_183 (6 : Int32) pp xx b494) [(.int uw), (.ref r_183), (.int 4), (.int 4), (.ref b494)]) _
   refine XS.iload X533.here hx rfl (hb hby at_210) rfl ?_
   show GO p e below T533 (mkF m 212 (la17 p0 p1 p2 p3 p4 p5 uw xl r_183 (6 : Int32) pp xx b494) [(.int pp), (.int uw), (.ref r_183), (.int 4), (.int 4), (.ref b494)]) _
   refine XS.iload X533.here hx rfl (hb hby at_212) rfl ?_
   show GO p e below T533 (mkF m 214 (la17 p0 p1 p2 p3 p4 p5 uw xl r_183 (6 : Int32) pp xx b494) [(.int xx), (.int pp), (.int uw), (.ref r_183), (.int 4), (.int 4), (.ref b494)]) _
   refine XS.iloadN X533.here hx rfl (hb hby at_214) rfl ?_
   show GO p e below T533 (mkF m 215 (la17 p0 p1 p2 p3 p4 p5 uw xl r_183 (6 : Int32) pp xx b494) [(.int p3), (.int xx), (.int pp), (.int uw), (.ref r_183), (.int 4), (.int 4), (.ref b494)]) _
   refine XS.iload X533.here hx rfl (hb hby at_215) rfl ?_
   show GO p e below T533 (mkF m 217 (la17 p0 p1 p2 p3 p4 p5 uw xl r_183 (6 : Int32) pp xx b494) [(.int p4), (.int p3), (.int xx), (.int pp), (.int uw), (.ref r_183), (.int 4), (.int 4), (.ref b494)]) _
   refine XS.iload X533.here hx rfl (hb hby at_217) rfl ?_
   show GO p e below T533 (mkF m 219 (la17 p0 p1 p2 p3 p4 p5 uw xl r_183 (6 : Int32) pp xx b494) [(.int p5), (.int p4), (.int p3), (.int xx), (.int pp), (.int uw), (.ref r_183), (.int 4), (.int 4), (.ref b494)]) _
   refine st535 _ ?_
   show GO p e below T535 (mkF m 222 (la17 p0 p1 p2 p3 p4 p5 uw xl r_183 (6 : Int32) pp xx b494) [(.int cv_535), (.int 4), (.ref b494)]) _
   refine st542 _ ?_
   show GO p e below T542 (mkF m 223 (la17 p0 p1 p2 p3 p4 p5 uw xl r_183 (6 : Int32) pp xx b494) []) _
   refine XS.iload X542.here hx rfl (hb hby at_223) rfl ?_
   show GO p e below T542 (mkF m 225 (la17 p0 p1 p2 p3 p4 p5 uw xl r_183 (6 : Int32) pp xx b494) [(.int 6)]) _
   refine XS.iconst X542.here hx rfl (hb hby at_225) ?_
   show GO p e below T542 (mkF m 226 (la17 p0 p1 p2 p3 p4 p5 uw xl r_183 (6 : Int32) pp xx b494) [(.int 5), (.int 6)]) _
   refine XS.icmpNo X542.here hx rfl (hb hby at_226) rfl (tlt ((by decide) : (5 : Int32) < (6 : Int32))).2.2.2 ?_
   show GO p e below T542 (mkF m 229 (la17 p0 p1 p2 p3 p4 p5 uw xl r_183 (6 : Int32) pp xx b494) []) _
   refine XS.aload X542.here hx rfl (hb hby at_229) rfl rfl ?_
   show GO p e below T542 (mkF m 231 (la17 p0 p1 p2 p3 p4 p5 uw xl r_183 (6 : Int32) pp xx b494) [(.ref b494)]) _
   refine XS.iconst X542.here hx rfl (hb hby at_231) ?_
   show GO p e below T542 (mkF m 232 (la17 p0 p1 p2 p3 p4 p5 uw xl r_183 (6 : Int32) pp xx b494) [(.int 5), (.ref b494)]) _
   refine XS.iconst X542.here hx rfl (hb hby at_232) ?_
   show GO p e below T542 (mkF m 233 (la17 p0 p1 p2 p3 p4 p5 uw xl r_183 (6 : Int32) pp xx b494) [(.int 5), (.int 5), (.ref b494)]) _
   refine XS.aload X542.here hx rfl (hb hby at_233) rfl rfl ?_
   show GO p e below T542 (mkF m 235 (la17 p0 p1 p2 p3 p4 p5 uw xl r_183 (6 : Int32) pp xx b494) [(.ref r_183), (.int 5), (.int 5), (.ref b494)]) _
   refine XS.iload X542.here hx rfl (hb hby at_235) rfl ?_
   show GO p e below T542 (mkF m 237 (la17 p0 p1 p2 p3 p4 p5 uw xl r_183 (6 : Int32) pp xx b494) [(.int uw), (.ref r_183), (.int 5), (.int 5), (.ref b494)]) _
   refine XS.iload X542.here hx rfl (hb hby at_237) rfl ?_
   show GO p e below T542 (mkF m 239 (la17 p0 p1 p2 p3 p4 p5 uw xl r_183 (6 : Int32) pp xx b494) [(.int pp), (.int uw), (.ref r_183), (.int 5), (.int 5), (.ref b494)]) _
   refine XS.iload X542.here hx rfl (hb hby at_239) rfl ?_
   show GO p e below T542 (mkF m 241 (la17 p0 p1 p2 p3 p4 p5 uw xl r_183 (6 : Int32) pp xx b494) [(.int xx), (.int pp), (.int uw), (.ref r_183), (.int 5), (.int 5), (.ref b494)]) _
   refine XS.iloadN X542.here hx rfl (hb hby at_241) rfl ?_
   show GO p e below T542 (mkF m 242 (la17 p0 p1 p2 p3 p4 p5 uw xl r_183 (6 : Int32) pp xx b494) [(.int p3), (.int xx), (.int pp), (.int uw), (.ref r_183), (.int 5), (.int 5), (.ref b494)]) _
   refine XS.iload X542.here hx rfl (hb hby at_242) rfl ?_
   show GO p e below T542 (mkF m 244 (la17 p0 p1 p2 p3 p4 p5 uw xl r_183 (6 : Int32) pp xx b494) [(.int p4), (.int p3), (.int xx), (.int pp), (.int uw), (.ref r_183), (.int 5), (.int 5), (.ref b494)]) _
   refine XS.iload X542.here hx rfl (hb hby at_244) rfl ?_
   show GO p e below T542 (mkF m 246 (la17 p0 p1 p2 p3 p4 p5 uw xl r_183 (6 : Int32) pp xx b494) [(.int p5), (.int p4), (.int p3), (.int xx), (.int pp), (.int uw), (.ref r_183), (.int 5), (.int 5), (.ref b494)]) _
   refine st544 _ ?_
   show GO p e below T544 (mkF m 249 (la17 p0 p1 p2 p3 p4 p5 uw xl r_183 (6 : Int32) pp xx b494) [(.int cv_544), (.int 5), (.ref b494)]) _
   refine st551 _ ?_
   show GO p e below T551 (mkF m 250 (la17 p0 p1 p2 p3 p4 p5 uw xl r_183 (6 : Int32) pp xx b494) []) _
   refine XS.iload X551.here hx rfl (hb hby at_250) rfl ?_
   show GO p e below T551 (mkF m 252 (la17 p0 p1 p2 p3 p4 p5 uw xl r_183 (6 : Int32) pp xx b494) [(.int 6)]) _
   refine XS.bipush X551.here hx rfl (hb hby at_252) ?_
   show GO p e below T551 (mkF m 254 (la17 p0 p1 p2 p3 p4 p5 uw xl r_183 (6 : Int32) pp xx b494) [(.int 6), (.int 6)]) _
   refine XS.icmpYes X551.here hx rfl (pc0 := 254) (pc' := 280) rfl (hb hby at_254) rfl (flt ((by decide) : ¬ ((6 : Int32) < (6 : Int32)))).2.2.2 (by decide) (by decide) ?_
   show GO p e below T551 (mkF m 280 (la17 p0 p1 p2 p3 p4 p5 uw xl r_183 (6 : Int32) pp xx b494) []) _
   refine XS.iload X551.here hx rfl (hb hby at_280) rfl ?_
   show GO p e below T551 (mkF m 282 (la17 p0 p1 p2 p3 p4 p5 uw xl r_183 (6 : Int32) pp xx b494) [(.int 6)]) _
   refine XS.bipush X551.here hx rfl (hb hby at_282) ?_
   show GO p e below T551 (mkF m 284 (la17 p0 p1 p2 p3 p4 p5 uw xl r_183 (6 : Int32) pp xx b494) [(.int 7), (.int 6)]) _
   refine XS.icmpYes X551.here hx rfl (pc0 := 284) (pc' := 310) rfl (hb hby at_284) rfl (flt ((by decide) : ¬ ((7 : Int32) < (6 : Int32)))).2.2.2 (by decide) (by decide) ?_
   show GO p e below T551 (mkF m 310 (la17 p0 p1 p2 p3 p4 p5 uw xl r_183 (6 : Int32) pp xx b494) []) _
   refine XS.iload X551.here hx rfl (hb hby at_310) rfl ?_
   show GO p e below T551 (mkF m 312 (la17 p0 p1 p2 p3 p4 p5 uw xl r_183 (6 : Int32) pp xx b494) [(.int 6)]) _
   refine XS.bipush X551.here hx rfl (hb hby at_312) ?_
   show GO p e below T551 (mkF m 314 (la17 p0 p1 p2 p3 p4 p5 uw xl r_183 (6 : Int32) pp xx b494) [(.int 8), (.int 6)]) _
   refine XS.icmpYes X551.here hx rfl (pc0 := 314) (pc' := 340) rfl (hb hby at_314) rfl (flt ((by decide) : ¬ ((8 : Int32) < (6 : Int32)))).2.2.2 (by decide) (by decide) ?_
   show GO p e below T551 (mkF m 340 (la17 p0 p1 p2 p3 p4 p5 uw xl r_183 (6 : Int32) pp xx b494) []) _
   refine XS.iload X551.here hx rfl (hb hby at_340) rfl ?_
   show GO p e below T551 (mkF m 342 (la17 p0 p1 p2 p3 p4 p5 uw xl r_183 (6 : Int32) pp xx b494) [(.int 6)]) _
   refine XS.bipush X551.here hx rfl (hb hby at_342) ?_
   show GO p e below T551 (mkF m 344 (la17 p0 p1 p2 p3 p4 p5 uw xl r_183 (6 : Int32) pp xx b494) [(.int 9), (.int 6)]) _
   refine XS.icmpYes X551.here hx rfl (pc0 := 344) (pc' := 370) rfl (hb hby at_344) rfl (flt ((by decide) : ¬ ((9 : Int32) < (6 : Int32)))).2.2.2 (by decide) (by decide) ?_
   show GO p e below T551 (mkF m 370 (la17 p0 p1 p2 p3 p4 p5 uw xl r_183 (6 : Int32) pp xx b494) []) _
   refine st554 _ ?_
   show GO p e below T554 (mkF m 373 (la17 p0 p1 p2 p3 p4 p5 uw xl r_183 (6 : Int32) pp xx b494) [(.ref b554)]) _
   refine XS.dup X554.here hx rfl (hb hby at_373) rfl rfl ?_
   show GO p e below T554 (mkF m 374 (la17 p0 p1 p2 p3 p4 p5 uw xl r_183 (6 : Int32) pp xx b494) [(.ref b554), (.ref b554)]) _
   refine XS.aload X554.here hx rfl (hb hby at_374) rfl rfl ?_
   show GO p e below T554 (mkF m 376 (la17 p0 p1 p2 p3 p4 p5 uw xl r_183 (6 : Int32) pp xx b494) [(.ref b494), (.ref b554), (.ref b554)]) _
   refine st561.trans ?_
   show GO p e below T561 (mkF m 379 (la17 p0 p1 p2 p3 p4 p5 uw xl r_183 (6 : Int32) pp xx b494) [(.ref b554)]) _
   refine XS.astore X561.here hx rfl (hb hby at_379) rfl rfl (l' := (la18 p0 p1 p2 p3 p4 p5 uw xl r_183 (6 : Int32) pp xx b494 b554)) rfl ?_
   show GO p e below T561 (mkF m 381 (la18 p0 p1 p2 p3 p4 p5 uw xl r_183 (6 : Int32) pp xx b494 b554) []) _
   refine XS.aload X561.here hx rfl (hb hby at_381) rfl rfl ?_
   show GO p e below T561 (mkF m 383 (la18 p0 p1 p2 p3 p4 p5 uw xl r_183 (6 : Int32) pp xx b494 b554) [(.ref b554)]) _
   refine st565 _ ?_
   show GO p e below T565 (mkF m 386 (la18 p0 p1 p2 p3 p4 p5 uw xl r_183 (6 : Int32) pp xx b494 b554) [(own_pick ([cv_496, cv_507, cv_517, cv_526, cv_535, cv_544] : List Int32) u0 u1 u2 u3)]) _
   refine XS.aload X565.here hx rfl (hb hby at_386) rfl rfl ?_
   show GO p e below T565 (mkF m 388 (la18 p0 p1 p2 p3 p4 p5 uw xl r_183 (6 : Int32) pp xx b494 b554) [(.ref b554), (own_pick ([cv_496, cv_507, cv_517, cv_526, cv_535, cv_544] : List Int32) u0 u1 u2 u3)]) _
   refine st569.trans ?_
   show GO p e below T569 (mkF m 391 (la18 p0 p1 p2 p3 p4 p5 uw xl r_183 (6 : Int32) pp xx b494 b554) [(own_pick ([cv_496, cv_507, cv_517, cv_526, cv_535, cv_544] : List Int32) u0 u1 u2 u3), (own_pick ([cv_496, cv_507, cv_517, cv_526, cv_535, cv_544] : List Int32) u0 u1 u2 u3)]) _
   refine Jvm.RoadKit.acmp (g := (mkF m 391 (la18 p0 p1 p2 p3 p4 p5 uw xl r_183 (6 : Int32) pp xx b494 b554) [(own_pick ([cv_496, cv_507, cv_517, cv_526, cv_535, cv_544] : List Int32) u0 u1 u2 u3), (own_pick ([cv_496, cv_507, cv_517, cv_526, cv_535, cv_544] : List Int32) u0 u1 u2 u3)])) X569 hx rfl (own_pickref _ _ _ _ _) (own_pickref _ _ _ _ _) (pc0 := 391) (pc' := 394) (same := true) rfl (hb hby at_391) rfl (decide_eq_true rfl) (by decide) (by decide) ?_
   show GO p e below T569 (mkF m 394 (la18 p0 p1 p2 p3 p4 p5 uw xl r_183 (6 : Int32) pp xx b494 b554) []) _
   refine XS.iconst X569.here hx rfl (hb hby at_394) ?_
   show GO p e below T569 (mkF m 395 (la18 p0 p1 p2 p3 p4 p5 uw xl r_183 (6 : Int32) pp xx b494 b554) [(.int 1)]) _
   refine XS.goto X569.here hx rfl (pc0 := 395) (pc' := 399) rfl (hb hby at_395) (by decide) (by decide) ?_
   show GO p e below T569 (mkF m 399 (la18 p0 p1 p2 p3 p4 p5 uw xl r_183 (6 : Int32) pp xx b494 b554) [(.int 1)]) _
   exact retN X569 hx (t := .boolean) Bd.returns (by simp) (hb hby at_399) hr
  ·show Qrm0 Z p0 p1 p2 p3 p4 p5 z0 f0 va u0 u1 u2 u3 w0 w1 w2 w3 y0 y1 y2 y3 kV b0 b1 b2 b3 h0 n0 _ T569.heap _
   rw [e569]
   exact ⟨rfl, N569⟩
  ·show CHr Z EL1 s.vm s.heap T569.vm T569.heap
   rw [hh, e569]
   exact CE
 ·obtain ⟨T576, h576, k576, X576, e576, E576, A576, st576⟩ := newP X186 hx hZ183 (wd hw 13 rfl) e186 (g := (mkF m 85 (la16 p0 p1 p2 p3 p4 p5 uw xl r_183 (7 : Int32) pp xx) [(.int 7)])) rfl (hb hby at_85) rfl (by decide) (cap := 7) (by decide) (by decide) (by decide) (by decide)
  obtain ⟨b576, g576⟩ : ∃ z, z = h183.size := ⟨_, rfl⟩
  rw [← g576] at A576 st576
  have C577 : CHr Z EL1 s.vm h0 T183.vm h576 := C184.trans (CHr.ext E576 C184.1)
  have sz576 : h183.size ≤ h576.size := E576.1
  have nz576 := Nat.le_trans nz183 sz576
  have lt576 := ltA A576.lt
  have V576 : Arv Z h576 b576 k576 .char (7 : Int32) [(.int 0), (.int 0), (.int 0), (.int 0), (.int 0), (.int 0), (.int 0)] (.int 0) := (Arv.new A576 (by decide)).pad (pad_rep [] (.int 0) 7)
  -- pc 111: KindNamedPinLaw.at by rm_at
  have f579 : Old Z n0 h576 := ((O0.keep K183 all0).ext E576)
  have f580 : Exa Z h576 r_183 kS0 := (p183_0.ext E576)
  have f581 : Fld Z h576 r_183 kS0 "coder" "B" (.int 0) := (p183_1.ext E576)
  have f582 : Fld Z h576 r_183 kS0 "value" "[B" (.ref t_183) := (p183_2.ext E576)
  have f583 : Arv Z h576 t_183 k_183 .byte N_183 vs_183 (.int 0) := (p183_3.ext E576)
  obtain ⟨_, _, ⟨T578, L578, k578, n578⟩, -, X578, ⟨Lc578, hQ578, l578, y578, z578⟩, st578⟩ := Jvm.LawKit.callS X576 hx (y := (⟨kS1, "at", kS3⟩ : MethodName)) hown183 (mvT hZ183 (wd hw 14 rfl)) (mvT hZ183 (wd hw 15 rfl)) (mvT hZ183 (wd hw 2 rfl)) (mvT hZ183 (wd hw 16 rfl)) (by decide) (backOf (W := 2) (rm_at l Z a0 hw [] (0 : Int32) uw pp xx p3 p4 p5 r_183 t_183 k_183 N_183 vs_183 cs_183 z0 f0 h576 n0 nz576 f579 f580 f581 f582 f583 (by first | assumption | decide | omega) (by first | assumption | decide | omega) (by first | assumption | decide | omega) (by first | assumption | decide | omega) r183_0 r183_1 r183_2 r183_3 (by decide) rxx qxx) hZ183 (wd hw 16 rfl) (wd hw 2 rfl) (by decide) (by decide)) (g := (mkF m 111 (la17 p0 p1 p2 p3 p4 p5 uw xl r_183 (7 : Int32) pp xx b576) [(.int p5), (.int p4), (.int p3), (.int xx), (.int pp), (.int uw), (.ref r_183), (.int 0), (.int 0), (.ref b576)])) rfl (by rw [hml]; rfl) (argsL := [(.int 0), (.ref r_183), (.int uw), (.int pp), (.int xx), (.int p3), (.int p4), (.int p5)]) (rest := [(.int 0), (.ref b576)]) (lenOf pd_9 rfl) rfl (wz rfl) (hb hby at_111) (fun _ _ => ⟨rfl, e576, (by decide : 3 + 0 ≤ _), (by decide : 47 + 0 ≤ _)⟩)
  dsimp only [Pt.U, Pt.locs, Pt.cells, Pt.slots] at X578 l578 y578 z578 st578 hQ578
  rw [l578, y578, z578] at X578
  obtain ⟨cv_578, rfl, N578q, e578, r578_0, r578_1⟩ := hQ578
  have N578 := Fr.app N186 N578q
  obtain ⟨cl584, Ar584, q584, S584, M584, H584, G584⟩ := id V576
  have hin584 : ¬ ((0 : Int32) < 0 ∨ cl584.slots.size ≤ ((0 : Int32)).toNatClampNeg) := inb_of S584 ⟨by decide, by decide⟩
  obtain ⟨T585, h585, X585, e585, W585, st585⟩ := stC X578 hx hZ183 e578 Ar584 (j := (0 : Int32)) hin584 (g := (mkF m 114 (la17 p0 p1 p2 p3 p4 p5 uw xl r_183 (7 : Int32) pp xx b576) [(.int cv_578), (.int 0), (.ref b576)])) rfl rfl (hb hby at_114)
  have ge586 : n0 ≤ b576 := by omega
  have N585 := Fr.snoc X585 N578 ge586
  have ne587 : b576 ≠ r_183 := Ne.symm (Exa.neArv f580 V576 (wd hw 6 rfl))
  have C588 : CHr Z EL1 s.vm h0 T183.vm h585 := C577.trans (CHr.wr W585 (Safe.arv hZ183.alike V576 (by decide)) C577.1)
  have sz585 : h576.size ≤ h585.size := Nat.le_of_eq W585.size.symm
  have nz585 := Nat.le_trans nz576 sz585
  have V585 : Arv Z h585 b576 k576 .char (7 : Int32) [(.int (nar .char cv_578)), (.int 0), (.int 0), (.int 0), (.int 0), (.int 0), (.int 0)] (.int 0) := Arv.set Ar584 q584 S584 M584 H584 G584 (fits_nar_char _) W585 0 rfl (Nat.le_of_ble_eq_true rfl)
  -- pc 138: KindNamedPinLaw.at by rm_at
  have f590 : Old Z n0 h585 := (f579.wr W585 ge586)
  have f591 : Exa Z h585 r_183 kS0 := (f580.wr W585)
  have f592 : Fld Z h585 r_183 kS0 "coder" "B" (.int 0) := (f581.other W585 (Or.inl (Ne.symm ne587)))
  have f593 : Fld Z h585 r_183 kS0 "value" "[B" (.ref t_183) := (f582.other W585 (Or.inl (Ne.symm ne587)))
  have ne594 : t_183 ≠ b576 := neN (by omega)
  have f595 : Arv Z h585 t_183 k_183 .byte N_183 vs_183 (.int 0) := (f583.other W585 ne594)
  obtain ⟨_, _, ⟨T589, L589, k589, n589⟩, -, X589, ⟨Lc589, hQ589, l589, y589, z589⟩, st589⟩ := Jvm.LawKit.callS X585 hx (y := (⟨kS1, "at", kS3⟩ : MethodName)) hown183 (mvT hZ183 (wd hw 14 rfl)) (mvT hZ183 (wd hw 15 rfl)) (mvT hZ183 (wd hw 2 rfl)) (mvT hZ183 (wd hw 16 rfl)) (by decide) (backOf (W := 2) (rm_at l Z a0 hw [] (1 : Int32) uw pp xx p3 p4 p5 r_183 t_183 k_183 N_183 vs_183 cs_183 z0 f0 h585 n0 nz585 f590 f591 f592 f593 f595 (by first | assumption | decide | omega) (by first | assumption | decide | omega) (by first | assumption | decide | omega) (by first | assumption | decide | omega) r183_0 r183_1 r183_2 r183_3 (by decide) rxx qxx) hZ183 (wd hw 16 rfl) (wd hw 2 rfl) (by decide) (by decide)) (g := (mkF m 138 (la17 p0 p1 p2 p3 p4 p5 uw xl r_183 (7 : Int32) pp xx b576) [(.int p5), (.int p4), (.int p3), (.int xx), (.int pp), (.int uw), (.ref r_183), (.int 1), (.int 1), (.ref b576)])) rfl (by rw [hml]; rfl) (argsL := [(.int 1), (.ref r_183), (.int uw), (.int pp), (.int xx), (.int p3), (.int p4), (.int p5)]) (rest := [(.int 1), (.ref b576)]) (lenOf pd_9 rfl) rfl (wz rfl) (hb hby at_138) (fun _ _ => ⟨rfl, e585, (by decide : 3 + 0 ≤ _), (by decide : 47 + 0 ≤ _)⟩)
  dsimp only [Pt.U, Pt.locs, Pt.cells, Pt.slots] at X589 l589 y589 z589 st589 hQ589
  rw [l589, y589, z589] at X589
  obtain ⟨cv_589, rfl, N589q, e589, r589_0, r589_1⟩ := hQ589
  have N589 := Fr.app N585 N589q
  obtain ⟨cl596, Ar596, q596, S596, M596, H596, G596⟩ := id V585
  have hin596 : ¬ ((1 : Int32) < 0 ∨ cl596.slots.size ≤ ((1 : Int32)).toNatClampNeg) := inb_of S596 ⟨by decide, by decide⟩
  obtain ⟨T597, h597, X597, e597, W597, st597⟩ := stC X589 hx hZ183 e589 Ar596 (j := (1 : Int32)) hin596 (g := (mkF m 141 (la17 p0 p1 p2 p3 p4 p5 uw xl r_183 (7 : Int32) pp xx b576) [(.int cv_589), (.int 1), (.ref b576)])) rfl rfl (hb hby at_141)
  have N597 := Fr.snoc X597 N589 ge586
  have C598 : CHr Z EL1 s.vm h0 T183.vm h597 := C588.trans (CHr.wr W597 (Safe.arv hZ183.alike V585 (by decide)) C588.1)
  have sz597 : h585.size ≤ h597.size := Nat.le_of_eq W597.size.symm
  have nz597 := Nat.le_trans nz585 sz597
  have V597 : Arv Z h597 b576 k576 .char (7 : Int32) [(.int (nar .char cv_578)), (.int (nar .char cv_589)), (.int 0), (.int 0), (.int 0), (.int 0), (.int 0)] (.int 0) := Arv.set Ar596 q596 S596 M596 H596 G596 (fits_nar_char _) W597 1 rfl (Nat.le_of_ble_eq_true rfl)
  -- pc 165: KindNamedPinLaw.at by rm_at
  have f600 : Old Z n0 h597 := (f590.wr W597 ge586)
  have f601 : Exa Z h597 r_183 kS0 := (f591.wr W597)
  have f602 : Fld Z h597 r_183 kS0 "coder" "B" (.int 0) := (f592.other W597 (Or.inl (Ne.symm ne587)))
  have f603 : Fld Z h597 r_183 kS0 "value" "[B" (.ref t_183) := (f593.other W597 (Or.inl (Ne.symm ne587)))
  have f604 : Arv Z h597 t_183 k_183 .byte N_183 vs_183 (.int 0) := (f595.other W597 ne594)
  obtain ⟨_, _, ⟨T599, L599, k599, n599⟩, -, X599, ⟨Lc599, hQ599, l599, y599, z599⟩, st599⟩ := Jvm.LawKit.callS X597 hx (y := (⟨kS1, "at", kS3⟩ : MethodName)) hown183 (mvT hZ183 (wd hw 14 rfl)) (mvT hZ183 (wd hw 15 rfl)) (mvT hZ183 (wd hw 2 rfl)) (mvT hZ183 (wd hw 16 rfl)) (by decide) (backOf (W := 2) (rm_at l Z a0 hw [] (2 : Int32) uw pp xx p3 p4 p5 r_183 t_183 k_183 N_183 vs_183 cs_183 z0 f0 h597 n0 nz597 f600 f601 f602 f603 f604 (by first | assumption | decide | omega) (by first | assumption | decide | omega) (by first | assumption | decide | omega) (by first | assumption | decide | omega) r183_0 r183_1 r183_2 r183_3 (by decide) rxx qxx) hZ183 (wd hw 16 rfl) (wd hw 2 rfl) (by decide) (by decide)) (g := (mkF m 165 (la17 p0 p1 p2 p3 p4 p5 uw xl r_183 (7 : Int32) pp xx b576) [(.int p5), (.int p4), (.int p3), (.int xx), (.int pp), (.int uw), (.ref r_183), (.int 2), (.int 2), (.ref b576)])) rfl (by rw [hml]; rfl) (argsL := [(.int 2), (.ref r_183), (.int uw), (.int pp), (.int xx), (.int p3), (.int p4), (.int p5)]) (rest := [(.int 2), (.ref b576)]) (lenOf pd_9 rfl) rfl (wz rfl) (hb hby at_165) (fun _ _ => ⟨rfl, e597, (by decide : 3 + 0 ≤ _), (by decide : 47 + 0 ≤ _)⟩)
  dsimp only [Pt.U, Pt.locs, Pt.cells, Pt.slots] at X599 l599 y599 z599 st599 hQ599
  rw [l599, y599, z599] at X599
  obtain ⟨cv_599, rfl, N599q, e599, r599_0, r599_1⟩ := hQ599
  have N599 := Fr.app N597 N599q
  obtain ⟨cl605, Ar605, q605, S605, M605, H605, G605⟩ := id V597
  have hin605 : ¬ ((2 : Int32) < 0 ∨ cl605.slots.size ≤ ((2 : Int32)).toNatClampNeg) := inb_of S605 ⟨by decide, by decide⟩
  obtain ⟨T606, h606, X606, e606, W606, st606⟩ := stC X599 hx hZ183 e599 Ar605 (j := (2 : Int32)) hin605 (g := (mkF m 168 (la17 p0 p1 p2 p3 p4 p5 uw xl r_183 (7 : Int32) pp xx b576) [(.int cv_599), (.int 2), (.ref b576)])) rfl rfl (hb hby at_168)
  have N606 := Fr.snoc X606 N599 ge586
  have C607 : CHr Z EL1 s.vm h0 T183.vm h606 := C598.trans (CHr.wr W606 (Safe.arv hZ183.alike V597 (by decide)) C598.1)
  have sz606 : h597.size ≤ h606.size := Nat.le_of_eq W606.size.symm
  have nz606 := Nat.le_trans nz597 sz606
  have V606 : Arv Z h606 b576 k576 .char (7 : Int32) [(.int (nar .char cv_578)), (.int (nar .char cv_589)), (.int (nar .char cv_599)), (.int 0), (.int 0), (.int 0), (.int 0)] (.int 0) := Arv.set Ar605 q605 S605 M605 H605 G605 (fits_nar_char _) W606 2 rfl (Nat.le_of_ble_eq_true rfl)
  -- pc 192: KindNamedPinLaw.at by rm_at
  have f609 : Old Z n0 h606 := (f600.wr W606 ge586)
  have f610 : Exa Z h606 r_183 kS0 := (f601.wr W606)
  have f611 : Fld Z h606 r_183 kS0 "coder" "B" (.int 0) := (f602.other W606 (Or.inl (Ne.symm ne587)))
  have f612 : Fld Z h606 r_183 kS0 "value" "[B" (.ref t_183) := (f603.other W606 (Or.inl (Ne.symm ne587)))
  have f613 : Arv Z h606 t_183 k_183 .byte N_183 vs_183 (.int 0) := (f604.other W606 ne594)
  obtain ⟨_, _, ⟨T608, L608, k608, n608⟩, -, X608, ⟨Lc608, hQ608, l608, y608, z608⟩, st608⟩ := Jvm.LawKit.callS X606 hx (y := (⟨kS1, "at", kS3⟩ : MethodName)) hown183 (mvT hZ183 (wd hw 14 rfl)) (mvT hZ183 (wd hw 15 rfl)) (mvT hZ183 (wd hw 2 rfl)) (mvT hZ183 (wd hw 16 rfl)) (by decide) (backOf (W := 2) (rm_at l Z a0 hw [] (3 : Int32) uw pp xx p3 p4 p5 r_183 t_183 k_183 N_183 vs_183 cs_183 z0 f0 h606 n0 nz606 f609 f610 f611 f612 f613 (by first | assumption | decide | omega) (by first | assumption | decide | omega) (by first | assumption | decide | omega) (by first | assumption | decide | omega) r183_0 r183_1 r183_2 r183_3 (by decide) rxx qxx) hZ183 (wd hw 16 rfl) (wd hw 2 rfl) (by decide) (by decide)) (g := (mkF m 192 (la17 p0 p1 p2 p3 p4 p5 uw xl r_183 (7 : Int32) pp xx b576) [(.int p5), (.int p4), (.int p3), (.int xx), (.int pp), (.int uw), (.ref r_183), (.int 3), (.int 3), (.ref b576)])) rfl (by rw [hml]; rfl) (argsL := [(.int 3), (.ref r_183), (.int uw), (.int pp), (.int xx), (.int p3), (.int p4), (.int p5)]) (rest := [(.int 3), (.ref b576)]) (lenOf pd_9 rfl) rfl (wz rfl) (hb hby at_192) (fun _ _ => ⟨rfl, e606, (by decide : 3 + 0 ≤ _), (by decide : 47 + 0 ≤ _)⟩)
  dsimp only [Pt.U, Pt.locs, Pt.cells, Pt.slots] at X608 l608 y608 z608 st608 hQ608
  rw [l608, y608, z608] at X608
  obtain ⟨cv_608, rfl, N608q, e608, r608_0, r608_1⟩ := hQ608
  have N608 := Fr.app N606 N608q
  obtain ⟨cl614, Ar614, q614, S614, M614, H614, G614⟩ := id V606
  have hin614 : ¬ ((3 : Int32) < 0 ∨ cl614.slots.size ≤ ((3 : Int32)).toNatClampNeg) := inb_of S614 ⟨by decide, by decide⟩
  obtain ⟨T615, h615, X615, e615, W615, st615⟩ := stC X608 hx hZ183 e608 Ar614 (j := (3 : Int32)) hin614 (g := (mkF m 195 (la17 p0 p1 p2 p3 p4 p5 uw xl r_183 (7 : Int32) pp xx b576) [(.int cv_608), (.int 3), (.ref b576)])) rfl rfl (hb hby at_195)
  have N615 := Fr.snoc X615 N608 ge586
  have C616 : CHr Z EL1 s.vm h0 T183.vm h615 := C607.trans (CHr.wr W615 (Safe.arv hZ183.alike V606 (by decide)) C607.1)
  have sz615 : h606.size ≤ h615.size := Nat.le_of_eq W615.size.symm
  have nz615 := Nat.le_trans nz606 sz615
  have V615 : Arv Z h615 b576 k576 .char (7 : Int32) [(.int (nar .char cv_578)), (.int (nar .char cv_589)), (.int (nar .char cv_599)), (.int (nar .char cv_608)), (.int 0), (.int 0), (.int 0)] (.int 0) := Arv.set Ar614 q614 S614 M614 H614 G614 (fits_nar_char _) W615 3 rfl (Nat.le_of_ble_eq_true rfl)
  -- pc 219: KindNamedPinLaw.at by rm_at
  have f618 : Old Z n0 h615 := (f609.wr W615 ge586)
  have f619 : Exa Z h615 r_183 kS0 := (f610.wr W615)
  have f620 : Fld Z h615 r_183 kS0 "coder" "B" (.int 0) := (f611.other W615 (Or.inl (Ne.symm ne587)))
  have f621 : Fld Z h615 r_183 kS0 "value" "[B" (.ref t_183) := (f612.other W615 (Or.inl (Ne.symm ne587)))
  have f622 : Arv Z h615 t_183 k_183 .byte N_183 vs_183 (.int 0) := (f613.other W615 ne594)
  obtain ⟨_, _, ⟨T617, L617, k617, n617⟩, -, X617, ⟨Lc617, hQ617, l617, y617, z617⟩, st617⟩ := Jvm.LawKit.callS X615 hx (y := (⟨kS1, "at", kS3⟩ : MethodName)) hown183 (mvT hZ183 (wd hw 14 rfl)) (mvT hZ183 (wd hw 15 rfl)) (mvT hZ183 (wd hw 2 rfl)) (mvT hZ183 (wd hw 16 rfl)) (by decide) (backOf (W := 2) (rm_at l Z a0 hw [] (4 : Int32) uw pp xx p3 p4 p5 r_183 t_183 k_183 N_183 vs_183 cs_183 z0 f0 h615 n0 nz615 f618 f619 f620 f621 f622 (by first | assumption | decide | omega) (by first | assumption | decide | omega) (by first | assumption | decide | omega) (by first | assumption | decide | omega) r183_0 r183_1 r183_2 r183_3 (by decide) rxx qxx) hZ183 (wd hw 16 rfl) (wd hw 2 rfl) (by decide) (by decide)) (g := (mkF m 219 (la17 p0 p1 p2 p3 p4 p5 uw xl r_183 (7 : Int32) pp xx b576) [(.int p5), (.int p4), (.int p3), (.int xx), (.int pp), (.int uw), (.ref r_183), (.int 4), (.int 4), (.ref b576)])) rfl (by rw [hml]; rfl) (argsL := [(.int 4), (.ref r_183), (.int uw), (.int pp), (.int xx), (.int p3), (.int p4), (.int p5)]) (rest := [(.int 4), (.ref b576)]) (lenOf pd_9 rfl) rfl (wz rfl) (hb hby at_219) (fun _ _ => ⟨rfl, e615, (by decide : 3 + 0 ≤ _), (by decide : 47 + 0 ≤ _)⟩)
  dsimp only [Pt.U, Pt.locs, Pt.cells, Pt.slots] at X617 l617 y617 z617 st617 hQ617
  rw [l617, y617, z617] at X617
  obtain ⟨cv_617, rfl, N617q, e617, r617_0, r617_1⟩ := hQ617
  have N617 := Fr.app N615 N617q
  obtain ⟨cl623, Ar623, q623, S623, M623, H623, G623⟩ := id V615
  have hin623 : ¬ ((4 : Int32) < 0 ∨ cl623.slots.size ≤ ((4 : Int32)).toNatClampNeg) := inb_of S623 ⟨by decide, by decide⟩
  obtain ⟨T624, h624, X624, e624, W624, st624⟩ := stC X617 hx hZ183 e617 Ar623 (j := (4 : Int32)) hin623 (g := (mkF m 222 (la17 p0 p1 p2 p3 p4 p5 uw xl r_183 (7 : Int32) pp xx b576) [(.int cv_617), (.int 4), (.ref b576)])) rfl rfl (hb hby at_222)
  have N624 := Fr.snoc X624 N617 ge586
  have C625 : CHr Z EL1 s.vm h0 T183.vm h624 := C616.trans (CHr.wr W624 (Safe.arv hZ183.alike V615 (by decide)) C616.1)
  have sz624 : h615.size ≤ h624.size := Nat.le_of_eq W624.size.symm
  have nz624 := Nat.le_trans nz615 sz624
  have V624 : Arv Z h624 b576 k576 .char (7 : Int32) [(.int (nar .char cv_578)), (.int (nar .char cv_589)), (.int (nar .char cv_599)), (.int (nar .char cv_608)), (.int (nar .char cv_617)), (.int 0), (.int 0)] (.int 0) := Arv.set Ar623 q623 S623 M623 H623 G623 (fits_nar_char _) W624 4 rfl (Nat.le_of_ble_eq_true rfl)
  -- pc 246: KindNamedPinLaw.at by rm_at
  have f627 : Old Z n0 h624 := (f618.wr W624 ge586)
  have f628 : Exa Z h624 r_183 kS0 := (f619.wr W624)
  have f629 : Fld Z h624 r_183 kS0 "coder" "B" (.int 0) := (f620.other W624 (Or.inl (Ne.symm ne587)))
  have f630 : Fld Z h624 r_183 kS0 "value" "[B" (.ref t_183) := (f621.other W624 (Or.inl (Ne.symm ne587)))
  have f631 : Arv Z h624 t_183 k_183 .byte N_183 vs_183 (.int 0) := (f622.other W624 ne594)
  obtain ⟨_, _, ⟨T626, L626, k626, n626⟩, -, X626, ⟨Lc626, hQ626, l626, y626, z626⟩, st626⟩ := Jvm.LawKit.callS X624 hx (y := (⟨kS1, "at", kS3⟩ : MethodName)) hown183 (mvT hZ183 (wd hw 14 rfl)) (mvT hZ183 (wd hw 15 rfl)) (mvT hZ183 (wd hw 2 rfl)) (mvT hZ183 (wd hw 16 rfl)) (by decide) (backOf (W := 2) (rm_at l Z a0 hw [] (5 : Int32) uw pp xx p3 p4 p5 r_183 t_183 k_183 N_183 vs_183 cs_183 z0 f0 h624 n0 nz624 f627 f628 f629 f630 f631 (by first | assumption | decide | omega) (by first | assumption | decide | omega) (by first | assumption | decide | omega) (by first | assumption | decide | omega) r183_0 r183_1 r183_2 r183_3 (by decide) rxx qxx) hZ183 (wd hw 16 rfl) (wd hw 2 rfl) (by decide) (by decide)) (g := (mkF m 246 (la17 p0 p1 p2 p3 p4 p5 uw xl r_183 (7 : Int32) pp xx b576) [(.int p5), (.int p4), (.int p3), (.int xx), (.int pp), (.int uw), (.ref r_183), (.int 5), (.int 5), (.ref b576)])) rfl (by rw [hml]; rfl) (argsL := [(.int 5), (.ref r_183), (.int uw), (.int pp), (.int xx), (.int p3), (.int p4), (.int p5)]) (rest := [(.int 5), (.ref b576)]) (lenOf pd_9 rfl) rfl (wz rfl) (hb hby at_246) (fun _ _ => ⟨rfl, e624, (by decide : 3 + 0 ≤ _), (by decide : 47 + 0 ≤ _)⟩)
  dsimp only [Pt.U, Pt.locs, Pt.cells, Pt.slots] at X626 l626 y626 z626 st626 hQ626
  rw [l626, y626, z626] at X626
  obtain ⟨cv_626, rfl, N626q, e626, r626_0, r626_1⟩ := hQ626
  have N626 := Fr.app N624 N626q
  obtain ⟨cl632, Ar632, q632, S632, M632, H632, G632⟩ := id V624
  have hin632 : ¬ ((5 : Int32) < 0 ∨ cl632.slots.size ≤ ((5 : Int32)).toNatClampNeg) := inb_of S632 ⟨by decide, by decide⟩
  obtain ⟨T633, h633, X633, e633, W633, st633⟩ := stC X626 hx hZ183 e626 Ar632 (j := (5 : Int32)) hin632 (g := (mkF m 249 (la17 p0 p1 p2 p3 p4 p5 uw xl r_183 (7 : Int32) pp xx b576) [(.int cv_626), (.int 5), (.ref b576)])) rfl rfl (hb hby at_249)
  have N633 := Fr.snoc X633 N626 ge586
  have C634 : CHr Z EL1 s.vm h0 T183.vm h633 := C625.trans (CHr.wr W633 (Safe.arv hZ183.alike V624 (by decide)) C625.1)
  have sz633 : h624.size ≤ h633.size := Nat.le_of_eq W633.size.symm
  have nz633 := Nat.le_trans nz624 sz633
  have V633 : Arv Z h633 b576 k576 .char (7 : Int32) [(.int (nar .char cv_578)), (.int (nar .char cv_589)), (.int (nar .char cv_599)), (.int (nar .char cv_608)), (.int (nar .char cv_617)), (.int (nar .char cv_626)), (.int 0)] (.int 0) := Arv.set Ar632 q632 S632 M632 H632 G632 (fits_nar_char _) W633 5 rfl (Nat.le_of_ble_eq_true rfl)
  -- pc 276: KindNamedPinLaw.at by rm_at
  have f636 : Old Z n0 h633 := (f627.wr W633 ge586)
  have f637 : Exa Z h633 r_183 kS0 := (f628.wr W633)
  have f638 : Fld Z h633 r_183 kS0 "coder" "B" (.int 0) := (f629.other W633 (Or.inl (Ne.symm ne587)))
  have f639 : Fld Z h633 r_183 kS0 "value" "[B" (.ref t_183) := (f630.other W633 (Or.inl (Ne.symm ne587)))
  have f640 : Arv Z h633 t_183 k_183 .byte N_183 vs_183 (.int 0) := (f631.other W633 ne594)
  obtain ⟨_, _, ⟨T635, L635, k635, n635⟩, -, X635, ⟨Lc635, hQ635, l635, y635, z635⟩, st635⟩ := Jvm.LawKit.callS X633 hx (y := (⟨kS1, "at", kS3⟩ : MethodName)) hown183 (mvT hZ183 (wd hw 14 rfl)) (mvT hZ183 (wd hw 15 rfl)) (mvT hZ183 (wd hw 2 rfl)) (mvT hZ183 (wd hw 16 rfl)) (by decide) (backOf (W := 2) (rm_at l Z a0 hw [] (6 : Int32) uw pp xx p3 p4 p5 r_183 t_183 k_183 N_183 vs_183 cs_183 z0 f0 h633 n0 nz633 f636 f637 f638 f639 f640 (by first | assumption | decide | omega) (by first | assumption | decide | omega) (by first | assumption | decide | omega) (by first | assumption | decide | omega) r183_0 r183_1 r183_2 r183_3 (by decide) rxx qxx) hZ183 (wd hw 16 rfl) (wd hw 2 rfl) (by decide) (by decide)) (g := (mkF m 276 (la17 p0 p1 p2 p3 p4 p5 uw xl r_183 (7 : Int32) pp xx b576) [(.int p5), (.int p4), (.int p3), (.int xx), (.int pp), (.int uw), (.ref r_183), (.int 6), (.int 6), (.ref b576)])) rfl (by rw [hml]; rfl) (argsL := [(.int 6), (.ref r_183), (.int uw), (.int pp), (.int xx), (.int p3), (.int p4), (.int p5)]) (rest := [(.int 6), (.ref b576)]) (lenOf pd_9 rfl) rfl (wz rfl) (hb hby at_276) (fun _ _ => ⟨rfl, e633, (by decide : 3 + 0 ≤ _), (by decide : 47 + 0 ≤ _)⟩)
  dsimp only [Pt.U, Pt.locs, Pt.cells, Pt.slots] at X635 l635 y635 z635 st635 hQ635
  rw [l635, y635, z635] at X635
  obtain ⟨cv_635, rfl, N635q, e635, r635_0, r635_1⟩ := hQ635
  have N635 := Fr.app N633 N635q
  obtain ⟨cl641, Ar641, q641, S641, M641, H641, G641⟩ := id V633
  have hin641 : ¬ ((6 : Int32) < 0 ∨ cl641.slots.size ≤ ((6 : Int32)).toNatClampNeg) := inb_of S641 ⟨by decide, by decide⟩
  obtain ⟨T642, h642, X642, e642, W642, st642⟩ := stC X635 hx hZ183 e635 Ar641 (j := (6 : Int32)) hin641 (g := (mkF m 279 (la17 p0 p1 p2 p3 p4 p5 uw xl r_183 (7 : Int32) pp xx b576) [(.int cv_635), (.int 6), (.ref b576)])) rfl rfl (hb hby at_279)
  have N642 := Fr.snoc X642 N635 ge586
  have C643 : CHr Z EL1 s.vm h0 T183.vm h642 := C634.trans (CHr.wr W642 (Safe.arv hZ183.alike V633 (by decide)) C634.1)
  have sz642 : h633.size ≤ h642.size := Nat.le_of_eq W642.size.symm
  have nz642 := Nat.le_trans nz633 sz642
  have V642 : Arv Z h642 b576 k576 .char (7 : Int32) [(.int (nar .char cv_578)), (.int (nar .char cv_589)), (.int (nar .char cv_599)), (.int (nar .char cv_608)), (.int (nar .char cv_617)), (.int (nar .char cv_626)), (.int (nar .char cv_635))] (.int 0) := Arv.set Ar641 q641 S641 M641 H641 G641 (fits_nar_char _) W642 6 rfl (Nat.le_of_ble_eq_true rfl)
  have V644 : Arv Z h642 b576 k576 .char (7 : Int32) [(.int cv_578), (.int cv_589), (.int cv_599), (.int cv_608), (.int cv_617), (.int cv_626), (.int cv_635)] (.int 0) := by
   have q := V642
   rw [r578_1, r589_1, r599_1, r608_1, r617_1, r626_1, r635_1] at q
   exact q
  obtain ⟨T645, h645, X645, e645, E645, A645, D645, U645, st645⟩ := newO X642 hx hZ183 hown183 (wd hw 20 rfl) (wd hw 6 rfl) (wd hw 5 rfl) e642 (g := (mkF m 370 (la17 p0 p1 p2 p3 p4 p5 uw xl r_183 (7 : Int32) pp xx b576) [])) rfl (hb hby at_370) (by decide) (by decide)
  obtain ⟨b645, g645⟩ : ∃ z, z = h642.size := ⟨_, rfl⟩
  rw [← g645] at A645 D645 U645 st645
  have C646 : CHr Z EL1 s.vm h0 T183.vm h645 := C643.trans (CHr.ext E645 C643.1)
  have sz645 : h642.size ≤ h645.size := E645.1
  have nz645 := Nat.le_trans nz642 sz645
  have lt645 := ltA A645.lt
  have B645 : Safe Z EL1 T183.vm h645 b645 := Safe.ext E645 C643.1 (Safe.new (by omega))
  have f647 : Fld Z h645 b645 kS0 "value" "[B" .null := D645 (Or.inr (wd hw 8 rfl)) (ty := (.array .byte)) (by decide)
  have f648 : Fld Z h645 b645 kS0 "coder" "B" (.int 0) := D645 (Or.inr (wd hw 9 rfl)) (ty := .byte) (by decide)
  have f649 : Arv Z h645 b576 k576 .char (7 : Int32) [(.int cv_578), (.int cv_589), (.int cv_599), (.int cv_608), (.int cv_617), (.int cv_626), (.int cv_635)] (.int 0) := (V644.ext E645)
  have f650 : Old Z n0 h645 := ((f636.wr W642 ge586).ext E645)
  have S651 : Sta Z h645 kS0 "COMPACT_STRINGS" "Z" (.int z0) := SZc.ext f650.2
  obtain ⟨v652, _, ⟨T652, L652, k652, n652⟩, -, X652, ⟨Lc652, hQ652, l652, y652, z652⟩, st652⟩ := X645.specialBack hx (y := (⟨kS0, "<init>", "([C)V"⟩ : MethodName)) rfl hown183 (mvT hZ183 (wd hw 21 rfl)) (mvT hZ183 (wd hw 22 rfl)) (mvT hZ183 (wd hw 23 rfl)) (by decide) (StrChars.Road.backV (W := 1) hZ183 (own_hws hw) (kI := 4) (wd hw 6 rfl) (cs := ([cv_578, cv_589, cv_599, cv_608, cv_617, cv_626, cv_635] : List Int32)) (bs := ([cv_578, cv_589, cv_599, cv_608, cv_617, cv_626, cv_635] : List Int32).map (fun c => c.toInt8.toInt32)) (n := 7) (n0 := n0) (by omega) (by omega) A645 f647 f648 f649 S651 hz0 rfl rfl (by decide) (by decide) (own_allS r578_0 (own_allS r589_0 (own_allS r599_0 (own_allS r608_0 (own_allS r617_0 (own_allS r626_0 (own_allS r635_0 own_all0))))))) rfl (by decide) (by decide)) (g := (mkF m 376 (la17 p0 p1 p2 p3 p4 p5 uw xl r_183 (7 : Int32) pp xx b576) [(.ref b576), (.ref b645), (.ref b645)])) rfl (by rw [hml]; rfl) (Steps.refl _) (a := b645) (argsL := [(.ref b576)]) (rest := [(.ref b645)]) (lenOf pd_7 rfl) rfl (wz rfl) (hb hby at_376) (fun _ _ => ⟨rfl, e645, (by decide : 4 + 1 ≤ _), (by decide : 51 + 7 ≤ _)⟩)
  dsimp only [Pt.U, Pt.locs, Pt.cells, Pt.slots] at X652 l652 y652 z652 st652 hQ652
  rw [l652, y652, z652] at X652
  obtain ⟨h652, e652⟩ : ∃ z, T652.heap = z := ⟨_, rfl⟩
  rw [e652] at hQ652
  obtain ⟨rfl, N652q, K652, A652, Fc652, t652, kb652, u652, lo652, nt652, Fv652, V652⟩ := hQ652
  have N652 := Fr.app N642 N652q
  have f653 : Arv Z h645 t_183 k_183 .byte N_183 vs_183 (.int 0) := ((f640.other W642 ne594).ext E645)
  have ne654 : b645 ≠ t_183 := Exa.neArv A645 f653 (wd hw 6 rfl)
  have C655 : CHr Z EL1 s.vm h0 T183.vm h652 := C646.trans (CHr.keep K652 (sfS B645 sf0) C646.1)
  have sz652 : h645.size ≤ h652.size := K652.1
  have nz652 := Nat.le_trans nz645 sz652
  have lt652 := ltA V652.lt
  have hcd652 : StrChars.Road.CodA ([cv_578, cv_589, cv_599, cv_608, cv_617, cv_626, cv_635] : List Int32) 0 (7 : Int32) ((([cv_578, cv_589, cv_599, cv_608, cv_617, cv_626, cv_635] : List Int32).map (fun c => c.toInt8.toInt32)).map Value.int) := own_codn rfl (fun c hc => ((own_allS r578_0 (own_allS r589_0 (own_allS r599_0 (own_allS r608_0 (own_allS r617_0 (own_allS r626_0 (own_allS r635_0 own_all0))))))) c hc).2)
  -- pc 383: Kind.named by rm_named
  have ge657 : n0 ≤ b645 := by omega
  have f658 : Old Z n0 h652 := (f650.keep K652 (allS ge657 all0))
  obtain ⟨_, _, ⟨T656, L656, k656, n656⟩, -, X656, ⟨Lc656, hQ656, l656, y656, z656⟩, st656⟩ := Jvm.LawKit.callS X652 hx (y := (⟨"com/example/rolegrant/rolegrant/policy/Kind", "named", kS2⟩ : MethodName)) hown183 (mvT hZ183 (wd hw 44 rfl)) (mvT hZ183 (wd hw 45 rfl)) (mvT hZ183 (wd hw 46 rfl)) (mvT hZ183 (wd hw 47 rfl)) (by decide) (backOf (W := 0) (rm_named l Z a0 hw [] b645 t652 kb652 (7 : Int32) ((([cv_578, cv_589, cv_599, cv_608, cv_617, cv_626, cv_635] : List Int32).map (fun c => c.toInt8.toInt32)).map Value.int) ([cv_578, cv_589, cv_599, cv_608, cv_617, cv_626, cv_635] : List Int32) z0 va u0 u1 u2 u3 w0 w1 w2 w3 y0 y1 y2 y3 kV b0 b1 b2 b3 h652 n0 nz652 f658 A652 Fc652 Fv652 V652 (by first | assumption | decide | omega) (by first | assumption | decide | omega) hcd652 (own_up (own_allS r578_0 (own_allS r589_0 (own_allS r599_0 (own_allS r608_0 (own_allS r617_0 (own_allS r626_0 (own_allS r635_0 own_all0)))))))) (Nat.le_of_ble_eq_true rfl) (by first | assumption | decide | omega)) hZ183 (wd hw 47 rfl) (wd hw 46 rfl) (by decide) (by decide)) (g := (mkF m 383 (la18 p0 p1 p2 p3 p4 p5 uw xl r_183 (7 : Int32) pp xx b576 b645) [(.ref b645)])) rfl (by rw [hml]; rfl) (argsL := [(.ref b645)]) (rest := []) (lenOf pd_8 rfl) rfl (wz rfl) (hb hby at_383) (fun _ _ => ⟨rfl, e652, (by decide : 5 + 1 ≤ _), (by decide : 58 + 4 ≤ _)⟩)
  dsimp only [Pt.U, Pt.locs, Pt.cells, Pt.slots] at X656 l656 y656 z656 st656 hQ656
  rw [l656, y656, z656] at X656
  obtain ⟨h656, e656⟩ : ∃ z, T656.heap = z := ⟨_, rfl⟩
  rw [e656] at hQ656
  obtain ⟨rfl, N656q, K656⟩ := hQ656
  have N656 := Fr.app N652 N656q
  have C659 : CHr Z EL1 s.vm h0 T183.vm h656 := C655.trans (CHr.keep K656 sf0 C655.1)
  have sz656 : h652.size ≤ h656.size := K656.1
  have nz656 := Nat.le_trans nz652 sz656
  -- pc 388: KindNamedPinLaw.expected by rm_exp
  have f661 : Old Z n0 h656 := (f658.keep K656 all0)
  have f662 : Exa Z h656 b645 kS0 := (A652.keep K656)
  have f663 : Fld Z h656 b645 kS0 "coder" "B" (.int 0) := (Fc652.keep K656 nin0)
  have f664 : Fld Z h656 b645 kS0 "value" "[B" (.ref t652) := (Fv652.keep K656 nin0)
  have f665 : Arv Z h656 t652 kb652 .byte (7 : Int32) ((([cv_578, cv_589, cv_599, cv_608, cv_617, cv_626, cv_635] : List Int32).map (fun c => c.toInt8.toInt32)).map Value.int) (.int 0) := (V652.keep K656 nin0)
  obtain ⟨_, _, ⟨T660, L660, k660, n660⟩, -, X660w, hS660w, gr660, ⟨Lc660, hQ660, l660, y660, z660, C660w⟩, st660⟩ := callSS X656 hx (y := (⟨kS1, "expected", kS2⟩ : MethodName)) hown183 (mvT hZ183 (wd hw 79 rfl)) (mvT hZ183 (wd hw 80 rfl)) (mvT hZ183 (wd hw 2 rfl)) (mvT hZ183 (wd hw 81 rfl)) (by decide) (own_backS (W := 1) (rm_exp l Z a0 hw [] b645 t652 kb652 (7 : Int32) ((([cv_578, cv_589, cv_599, cv_608, cv_617, cv_626, cv_635] : List Int32).map (fun c => c.toInt8.toInt32)).map Value.int) ([cv_578, cv_589, cv_599, cv_608, cv_617, cv_626, cv_635] : List Int32) z0 va u0 u1 u2 u3 w0 w1 w2 w3 y0 y1 y2 y3 kV b0 b1 b2 b3 h656 n0 nz656 f661 f662 f663 f664 f665 (by first | assumption | decide | omega) (by first | assumption | decide | omega) hcd652 (own_up (own_allS r578_0 (own_allS r589_0 (own_allS r599_0 (own_allS r608_0 (own_allS r617_0 (own_allS r626_0 (own_allS r635_0 own_all0)))))))) (Nat.le_of_ble_eq_true rfl) (by first | assumption | decide | omega)) hZ183 (wd hw 81 rfl) (wd hw 2 rfl) (by decide) (by decide) (own_EW hw) C659.1 sf0 all0) (g := (mkF m 388 (la18 p0 p1 p2 p3 p4 p5 uw xl r_183 (7 : Int32) pp xx b576 b645) [(.ref b645), (own_pick ([cv_578, cv_589, cv_599, cv_608, cv_617, cv_626, cv_635] : List Int32) u0 u1 u2 u3)])) rfl (by rw [hml]; rfl) (argsL := [(.ref b645)]) (rest := [(own_pick ([cv_578, cv_589, cv_599, cv_608, cv_617, cv_626, cv_635] : List Int32) u0 u1 u2 u3)]) (lenOf pd_8 rfl) rfl (own_wx _ _ _ _ _) (hb hby at_388) (fun _ _ => ⟨rfl, e656, (by decide : 6 + 8 ≤ _), (by decide : 62 + 104 ≤ _)⟩)
  dsimp only [Pt.U, Pt.locs, Pt.cells, Pt.slots] at X660w hS660w gr660 l660 y660 z660 st660 hQ660 C660w
  rw [l660, y660, z660] at X660w
  obtain ⟨X660, hS660, hZ660, hown660⟩ := rebS hS183 (by rw [e656]; omega) X660w hS660w gr660 hZ183 hown183
  obtain ⟨h660, e660⟩ : ∃ z, T660.heap = z := ⟨_, rfl⟩
  rw [e660] at hQ660
  obtain ⟨rfl, N660q, K660⟩ := hQ660
  have N660 := Fr.app N656 N660q
  rw [e660] at C660w hS660
  have hk660 : h660.size ≤ h660.size := Nat.le_refl _
  have C666 : CHr Z EL1 s.vm h0 T660.vm h660 := C659.trans (C660w)
  have sz660 : h656.size ≤ h660.size := K660.1
  have nz660 := Nat.le_trans nz656 sz660
  obtain ⟨fs, hr, hrun, hended, hE⟩ := X660.leaveW hS660 (by rw [e660]; omega) (v := some (.int 1)) (fun h => by rw [Bd.returns] at h; cases h)
  have CE := C666.trans (CHv.at X660 hZ660 (own_EW hw) C666.1)
  refine ⟨_, _, pre196 _ ?_, hrun, hended, _, _, rfl, ?_, ?_, ⟨hE.1, hE.2.1, hE.2.2.1, hE.2.2.2.mono (by decide) (by decide)⟩⟩
  ·show GO p e below T186 (mkF m 83 (la16 p0 p1 p2 p3 p4 p5 uw xl r_183 (7 : Int32) pp xx) []) _
   refine XS.iload X186.here hx rfl (hb hby at_83) rfl ?_
   show GO p e below T186 (mkF m 85 (la16 p0 p1 p2 p3 p4 p5 uw xl r_183 (7 : Int32) pp xx) [(.int 7)]) _
   refine st576 _ ?_
   show GO p e below T576 (mkF m 87 (la16 p0 p1 p2 p3 p4 p5 uw xl r_183 (7 : Int32) pp xx) [(.ref b576)]) _
   refine XS.astore X576.here hx rfl (hb hby at_87) rfl rfl (l' := (la17 p0 p1 p2 p3 p4 p5 uw xl r_183 (7 : Int32) pp xx b576)) rfl ?_
   show GO p e below T576 (mkF m 89 (la17 p0 p1 p2 p3 p4 p5 uw xl r_183 (7 : Int32) pp xx b576) []) _
   refine XS.iload X576.here hx rfl (hb hby at_89) rfl ?_
   show GO p e below T576 (mkF m 91 (la17 p0 p1 p2 p3 p4 p5 uw xl r_183 (7 : Int32) pp xx b576) [(.int 7)]) _
   refine XS.ifNo X576.here hx rfl (hb hby at_91) rfl ((if0 _ _).trans (tlt ((by decide) : (0 : Int32) < (7 : Int32))).2.2.2) ?_
   show GO p e below T576 (mkF m 94 (la17 p0 p1 p2 p3 p4 p5 uw xl r_183 (7 : Int32) pp xx b576) []) _
   refine XS.aload X576.here hx rfl (hb hby at_94) rfl rfl ?_
   show GO p e below T576 (mkF m 96 (la17 p0 p1 p2 p3 p4 p5 uw xl r_183 (7 : Int32) pp xx b576) [(.ref b576)]) _
   refine XS.iconst X576.here hx rfl (hb hby at_96) ?_
   show GO p e below T576 (mkF m 97 (la17 p0 p1 p2 p3 p4 p5 uw xl r_183 (7 : Int32) pp xx b576) [(.int 0), (.ref b576)]) _
   refine XS.iconst X576.here hx rfl (hb hby at_97) ?_
   show GO p e below T576 (mkF m 98 (la17 p0 p1 p2 p3 p4 p5 uw xl r_183 (7 : Int32) pp xx b576) [(.int 0), (.int 0), (.ref b576)]) _
   refine XS.aload X576.here hx rfl (hb hby at_98) rfl rfl ?_
   show GO p e below T576 (mkF m 100 (la17 p0 p1 p2 p3 p4 p5 uw xl r_183 (7 : Int32) pp xx b576) [(.ref r_183), (.int 0), (.int 0), (.ref b576)]) _
   refine XS.iload X576.here hx rfl (hb hby at_100) rfl ?_
   show GO p e below T576 (mkF m 102 (la17 p0 p1 p2 p3 p4 p5 uw xl r_183 (7 : Int32) pp xx b576) [(.int uw), (.ref r_183), (.int 0), (.int 0), (.ref b576)]) _
   refine XS.iload X576.here hx rfl (hb hby at_102) rfl ?_
   show GO p e below T576 (mkF m 104 (la17 p0 p1 p2 p3 p4 p5 uw xl r_183 (7 : Int32) pp xx b576) [(.int pp), (.int uw), (.ref r_183), (.int 0), (.int 0), (.ref b576)]) _
   refine XS.iload X576.here hx rfl (hb hby at_104) rfl ?_
   show GO p e below T576 (mkF m 106 (la17 p0 p1 p2 p3 p4 p5 uw xl r_183 (7 : Int32) pp xx b576) [(.int xx), (.int pp), (.int uw), (.ref r_183), (.int 0), (.int 0), (.ref b576)]) _
   refine XS.iloadN X576.here hx rfl (hb hby at_106) rfl ?_
   show GO p e below T576 (mkF m 107 (la17 p0 p1 p2 p3 p4 p5 uw xl r_183 (7 : Int32) pp xx b576) [(.int p3), (.int xx), (.int pp), (.int uw), (.ref r_183), (.int 0), (.int 0), (.ref b576)]) _
   refine XS.iload X576.here hx rfl (hb hby at_107) rfl ?_
   show GO p e below T576 (mkF m 109 (la17 p0 p1 p2 p3 p4 p5 uw xl r_183 (7 : Int32) pp xx b576) [(.int p4), (.int p3), (.int xx), (.int pp), (.int uw), (.ref r_183), (.int 0), (.int 0), (.ref b576)]) _
   refine XS.iload X576.here hx rfl (hb hby at_109) rfl ?_
   show GO p e below T576 (mkF m 111 (la17 p0 p1 p2 p3 p4 p5 uw xl r_183 (7 : Int32) pp xx b576) [(.int p5), (.int p4), (.int p3), (.int xx), (.int pp), (.int uw), (.ref r_183), (.int 0), (.int 0), (.ref b576)]) _
   refine st578 _ ?_
   show GO p e below T578 (mkF m 114 (la17 p0 p1 p2 p3 p4 p5 uw xl r_183 (7 : Int32) pp xx b576) [(.int cv_578), (.int 0), (.ref b576)]) _
   refine st585 _ ?_
   show GO p e below T585 (mkF m 115 (la17 p0 p1 p2 p3 p4 p5 uw xl r_183 (7 : Int32) pp xx b576) []) _
   refine XS.iload X585.here hx rfl (hb hby at_115) rfl ?_
   show GO p e below T585 (mkF m 117 (la17 p0 p1 p2 p3 p4 p5 uw xl r_183 (7 : Int32) pp xx b576) [(.int 7)]) _
   refine XS.iconst X585.here hx rfl (hb hby at_117) ?_
   show GO p e below T585 (mkF m 118 (la17 p0 p1 p2 p3 p4 p5 uw xl r_183 (7 : Int32) pp xx b576) [(.int 1), (.int 7)]) _
   refine XS.icmpNo X585.here hx rfl (hb hby at_118) rfl (tlt ((by decide) : (1 : Int32) < (7 : Int32))).2.2.2 ?_
   show GO p e below T585 (mkF m 121 (la17 p0 p1 p2 p3 p4 p5 uw xl r_183 (7 : Int32) pp xx b576) []) _
   refine XS.aload X585.here hx rfl (hb hby at_121) rfl rfl ?_
   show GO p e below T585 (mkF m 123 (la17 p0 p1 p2 p3 p4 p5 uw xl r_183 (7 : Int32) pp xx b576) [(.ref b576)]) _
   refine XS.iconst X585.here hx rfl (hb hby at_123) ?_
   show GO p e below T585 (mkF m 124 (la17 p0 p1 p2 p3 p4 p5 uw xl r_183 (7 : Int32) pp xx b576) [(.int 1), (.ref b576)]) _
   refine XS.iconst X585.here hx rfl (hb hby at_124) ?_
   show GO p e below T585 (mkF m 125 (la17 p0 p1 p2 p3 p4 p5 uw xl r_183 (7 : Int32) pp xx b576) [(.int 1), (.int 1), (.ref b576)]) _
   refine XS.aload X585.here hx rfl (hb hby at_125) rfl rfl ?_
   show GO p e below T585 (mkF m 127 (la17 p0 p1 p2 p3 p4 p5 uw xl r_183 (7 : Int32) pp xx b576) [(.ref r_183), (.int 1), (.int 1), (.ref b576)]) _
   refine XS.iload X585.here hx rfl (hb hby at_127) rfl ?_
   show GO p e below T585 (mkF m 129 (la17 p0 p1 p2 p3 p4 p5 uw xl r_183 (7 : Int32) pp xx b576) [(.int uw), (.ref r_183), (.int 1), (.int 1), (.ref b576)]) _
   refine XS.iload X585.here hx rfl (hb hby at_129) rfl ?_
   show GO p e below T585 (mkF m 131 (la17 p0 p1 p2 p3 p4 p5 uw xl r_183 (7 : Int32) pp xx b576) [(.int pp), (.int uw), (.ref r_183), (.int 1), (.int 1), (.ref b576)]) _
   refine XS.iload X585.here hx rfl (hb hby at_131) rfl ?_
   show GO p e below T585 (mkF m 133 (la17 p0 p1 p2 p3 p4 p5 uw xl r_183 (7 : Int32) pp xx b576) [(.int xx), (.int pp), (.int uw), (.ref r_183), (.int 1), (.int 1), (.ref b576)]) _
   refine XS.iloadN X585.here hx rfl (hb hby at_133) rfl ?_
   show GO p e below T585 (mkF m 134 (la17 p0 p1 p2 p3 p4 p5 uw xl r_183 (7 : Int32) pp xx b576) [(.int p3), (.int xx), (.int pp), (.int uw), (.ref r_183), (.int 1), (.int 1), (.ref b576)]) _
   refine XS.iload X585.here hx rfl (hb hby at_134) rfl ?_
   show GO p e below T585 (mkF m 136 (la17 p0 p1 p2 p3 p4 p5 uw xl r_183 (7 : Int32) pp xx b576) [(.int p4), (.int p3), (.int xx), (.int pp), (.int uw), (.ref r_183), (.int 1), (.int 1), (.ref b576)]) _
   refine XS.iload X585.here hx rfl (hb hby at_136) rfl ?_
   show GO p e below T585 (mkF m 138 (la17 p0 p1 p2 p3 p4 p5 uw xl r_183 (7 : Int32) pp xx b576) [(.int p5), (.int p4), (.int p3), (.int xx), (.int pp), (.int uw), (.ref r_183), (.int 1), (.int 1), (.ref b576)]) _
   refine st589 _ ?_
   show GO p e below T589 (mkF m 141 (la17 p0 p1 p2 p3 p4 p5 uw xl r_183 (7 : Int32) pp xx b576) [(.int cv_589), (.int 1), (.ref b576)]) _
   refine st597 _ ?_
   show GO p e below T597 (mkF m 142 (la17 p0 p1 p2 p3 p4 p5 uw xl r_183 (7 : Int32) pp xx b576) []) _
   refine XS.iload X597.here hx rfl (hb hby at_142) rfl ?_
   show GO p e below T597 (mkF m 144 (la17 p0 p1 p2 p3 p4 p5 uw xl r_183 (7 : Int32) pp xx b576) [(.int 7)]) _
   refine XS.iconst X597.here hx rfl (hb hby at_144) ?_
   show GO p e below T597 (mkF m 145 (la17 p0 p1 p2 p3 p4 p5 uw xl r_183 (7 : Int32) pp xx b576) [(.int 2), (.int 7)]) _
   refine XS.icmpNo X597.here hx rfl (hb hby at_145) rfl (tlt ((by decide) : (2 : Int32) < (7 : Int32))).2.2.2 ?_
   show GO p e below T597 (mkF m 148 (la17 p0 p1 p2 p3 p4 p5 uw xl r_183 (7 : Int32) pp xx b576) []) _
   refine XS.aload X597.here hx rfl (hb hby at_148) rfl rfl ?_
   show GO p e below T597 (mkF m 150 (la17 p0 p1 p2 p3 p4 p5 uw xl r_183 (7 : Int32) pp xx b576) [(.ref b576)]) _
   refine XS.iconst X597.here hx rfl (hb hby at_150) ?_
   show GO p e below T597 (mkF m 151 (la17 p0 p1 p2 p3 p4 p5 uw xl r_183 (7 : Int32) pp xx b576) [(.int 2), (.ref b576)]) _
   refine XS.iconst X597.here hx rfl (hb hby at_151) ?_
   show GO p e below T597 (mkF m 152 (la17 p0 p1 p2 p3 p4 p5 uw xl r_183 (7 : Int32) pp xx b576) [(.int 2), (.int 2), (.ref b576)]) _
   refine XS.aload X597.here hx rfl (hb hby at_152) rfl rfl ?_
   show GO p e below T597 (mkF m 154 (la17 p0 p1 p2 p3 p4 p5 uw xl r_183 (7 : Int32) pp xx b576) [(.ref r_183), (.int 2), (.int 2), (.ref b576)]) _
   refine XS.iload X597.here hx rfl (hb hby at_154) rfl ?_
   show GO p e below T597 (mkF m 156 (la17 p0 p1 p2 p3 p4 p5 uw xl r_183 (7 : Int32) pp xx b576) [(.int uw), (.ref r_183), (.int 2), (.int 2), (.ref b576)]) _
   refine XS.iload X597.here hx rfl (hb hby at_156) rfl ?_
   show GO p e below T597 (mkF m 158 (la17 p0 p1 p2 p3 p4 p5 uw xl r_183 (7 : Int32) pp xx b576) [(.int pp), (.int uw), (.ref r_183), (.int 2), (.int 2), (.ref b576)]) _
   refine XS.iload X597.here hx rfl (hb hby at_158) rfl ?_
   show GO p e below T597 (mkF m 160 (la17 p0 p1 p2 p3 p4 p5 uw xl r_183 (7 : Int32) pp xx b576) [(.int xx), (.int pp), (.int uw), (.ref r_183), (.int 2), (.int 2), (.ref b576)]) _
   refine XS.iloadN X597.here hx rfl (hb hby at_160) rfl ?_
   show GO p e below T597 (mkF m 161 (la17 p0 p1 p2 p3 p4 p5 uw xl r_183 (7 : Int32) pp xx b576) [(.int p3), (.int xx), (.int pp), (.int uw), (.ref r_183), (.int 2), (.int 2), (.ref b576)]) _
   refine XS.iload X597.here hx rfl (hb hby at_161) rfl ?_
   show GO p e below T597 (mkF m 163 (la17 p0 p1 p2 p3 p4 p5 uw xl r_183 (7 : Int32) pp xx b576) [(.int p4), (.int p3), (.int xx), (.int pp), (.int uw), (.ref r_183), (.int 2), (.int 2), (.ref b576)]) _
   refine XS.iload X597.here hx rfl (hb hby at_163) rfl ?_
   show GO p e below T597 (mkF m 165 (la17 p0 p1 p2 p3 p4 p5 uw xl r_183 (7 : Int32) pp xx b576) [(.int p5), (.int p4), (.int p3), (.int xx), (.int pp), (.int uw), (.ref r_183), (.int 2), (.int 2), (.ref b576)]) _
   refine st599 _ ?_
   show GO p e below T599 (mkF m 168 (la17 p0 p1 p2 p3 p4 p5 uw xl r_183 (7 : Int32) pp xx b576) [(.int cv_599), (.int 2), (.ref b576)]) _
   refine st606 _ ?_
   show GO p e below T606 (mkF m 169 (la17 p0 p1 p2 p3 p4 p5 uw xl r_183 (7 : Int32) pp xx b576) []) _
   refine XS.iload X606.here hx rfl (hb hby at_169) rfl ?_
   show GO p e below T606 (mkF m 171 (la17 p0 p1 p2 p3 p4 p5 uw xl r_183 (7 : Int32) pp xx b576) [(.int 7)]) _
   refine XS.iconst X606.here hx rfl (hb hby at_171) ?_
   show GO p e below T606 (mkF m 172 (la17 p0 p1 p2 p3 p4 p5 uw xl r_183 (7 : Int32) pp xx b576) [(.int 3), (.int 7)]) _
   refine XS.icmpNo X606.here hx rfl (hb hby at_172) rfl (tlt ((by decide) : (3 : Int32) < (7 : Int32))).2.2.2 ?_
   show GO p e below T606 (mkF m 175 (la17 p0 p1 p2 p3 p4 p5 uw xl r_183 (7 : Int32) pp xx b576) []) _
   refine XS.aload X606.here hx rfl (hb hby at_175) rfl rfl ?_
   show GO p e below T606 (mkF m 177 (la17 p0 p1 p2 p3 p4 p5 uw xl r_183 (7 : Int32) pp xx b576) [(.ref b576)]) _
   refine XS.iconst X606.here hx rfl (hb hby at_177) ?_
   show GO p e below T606 (mkF m 178 (la17 p0 p1 p2 p3 p4 p5 uw xl r_183 (7 : Int32) pp xx b576) [(.int 3), (.ref b576)]) _
   refine XS.iconst X606.here hx rfl (hb hby at_178) ?_
   show GO p e below T606 (mkF m 179 (la17 p0 p1 p2 p3 p4 p5 uw xl r_183 (7 : Int32) pp xx b576) [(.int 3), (.int 3), (.ref b576)]) _
   refine XS.aload X606.here hx rfl (hb hby at_179) rfl rfl ?_
   show GO p e below T606 (mkF m 181 (la17 p0 p1 p2 p3 p4 p5 uw xl r_183 (7 : Int32) pp xx b576) [(.ref r_183), (.int 3), (.int 3), (.ref b576)]) _
   refine XS.iload X606.here hx rfl (hb hby at_181) rfl ?_
   show GO p e below T606 (mkF m 183 (la17 p0 p1 p2 p3 p4 p5 uw xl r_183 (7 : Int32) pp xx b576) [(.int uw), (.ref r_183), (.int 3), (.int 3), (.ref b576)]) _
   refine XS.iload X606.here hx rfl (hb hby at_183) rfl ?_
   show GO p e below T606 (mkF m 185 (la17 p0 p1 p2 p3 p4 p5 uw xl r_183 (7 : Int32) pp xx b576) [(.int pp), (.int uw), (.ref r_183), (.int 3), (.int 3), (.ref b576)]) _
   refine XS.iload X606.here hx rfl (hb hby at_185) rfl ?_
   show GO p e below T606 (mkF m 187 (la17 p0 p1 p2 p3 p4 p5 uw xl r_183 (7 : Int32) pp xx b576) [(.int xx), (.int pp), (.int uw), (.ref r_183), (.int 3), (.int 3), (.ref b576)]) _
   refine XS.iloadN X606.here hx rfl (hb hby at_187) rfl ?_
   show GO p e below T606 (mkF m 188 (la17 p0 p1 p2 p3 p4 p5 uw xl r_183 (7 : Int32) pp xx b576) [(.int p3), (.int xx), (.int pp), (.int uw), (.ref r_183), (.int 3), (.int 3), (.ref b576)]) _
   refine XS.iload X606.here hx rfl (hb hby at_188) rfl ?_
   show GO p e below T606 (mkF m 190 (la17 p0 p1 p2 p3 p4 p5 uw xl r_183 (7 : Int32) pp xx b576) [(.int p4), (.int p3), (.int xx), (.int pp), (.int uw), (.ref r_183), (.int 3), (.int 3), (.ref b576)]) _
   refine XS.iload X606.here hx rfl (hb hby at_190) rfl ?_
   show GO p e below T606 (mkF m 192 (la17 p0 p1 p2 p3 p4 p5 uw xl r_183 (7 : Int32) pp xx b576) [(.int p5), (.int p4), (.int p3), (.int xx), (.int pp), (.int uw), (.ref r_183), (.int 3), (.int 3), (.ref b576)]) _
   refine st608 _ ?_
   show GO p e below T608 (mkF m 195 (la17 p0 p1 p2 p3 p4 p5 uw xl r_183 (7 : Int32) pp xx b576) [(.int cv_608), (.int 3), (.ref b576)]) _
   refine st615 _ ?_
   show GO p e below T615 (mkF m 196 (la17 p0 p1 p2 p3 p4 p5 uw xl r_183 (7 : Int32) pp xx b576) []) _
   refine XS.iload X615.here hx rfl (hb hby at_196) rfl ?_
   show GO p e below T615 (mkF m 198 (la17 p0 p1 p2 p3 p4 p5 uw xl r_183 (7 : Int32) pp xx b576) [(.int 7)]) _
   refine XS.iconst X615.here hx rfl (hb hby at_198) ?_
   show GO p e below T615 (mkF m 199 (la17 p0 p1 p2 p3 p4 p5 uw xl r_183 (7 : Int32) pp xx b576) [(.int 4), (.int 7)]) _
   refine XS.icmpNo X615.here hx rfl (hb hby at_199) rfl (tlt ((by decide) : (4 : Int32) < (7 : Int32))).2.2.2 ?_
   show GO p e below T615 (mkF m 202 (la17 p0 p1 p2 p3 p4 p5 uw xl r_183 (7 : Int32) pp xx b576) []) _
   refine XS.aload X615.here hx rfl (hb hby at_202) rfl rfl ?_
   show GO p e below T615 (mkF m 204 (la17 p0 p1 p2 p3 p4 p5 uw xl r_183 (7 : Int32) pp xx b576) [(.ref b576)]) _
   refine XS.iconst X615.here hx rfl (hb hby at_204) ?_
   show GO p e below T615 (mkF m 205 (la17 p0 p1 p2 p3 p4 p5 uw xl r_183 (7 : Int32) pp xx b576) [(.int 4), (.ref b576)]) _
   refine XS.iconst X615.here hx rfl (hb hby at_205) ?_
   show GO p e below T615 (mkF m 206 (la17 p0 p1 p2 p3 p4 p5 uw xl r_183 (7 : Int32) pp xx b576) [(.int 4), (.int 4), (.ref b576)]) _
   refine XS.aload X615.here hx rfl (hb hby at_206) rfl rfl ?_
   show GO p e below T615 (mkF m 208 (la17 p0 p1 p2 p3 p4 p5 uw xl r_183 (7 : Int32) pp xx b576) [(.ref r_183), (.int 4), (.int 4), (.ref b576)]) _
   refine XS.iload X615.here hx rfl (hb hby at_208) rfl ?_
   show GO p e below T615 (mkF m 210 (la17 p0 p1 p2 p3 p4 p5 uw xl r_183 (7 : Int32) pp xx b576) [(.int uw), (.ref r_183), (.int 4), (.int 4), (.ref b576)]) _
   refine XS.iload X615.here hx rfl (hb hby at_210) rfl ?_
   show GO p e below T615 (mkF m 212 (la17 p0 p1 p2 p3 p4 p5 uw xl r_183 (7 : Int32) pp xx b576) [(.int pp), (.int uw), (.ref r_183), (.int 4), (.int 4), (.ref b576)]) _
   refine XS.iload X615.here hx rfl (hb hby at_212) rfl ?_
   show GO p e below T615 (mkF m 214 (la17 p0 p1 p2 p3 p4 p5 uw xl r_183 (7 : Int32) pp xx b576) [(.int xx), (.int pp), (.int uw), (.ref r_183), (.int 4), (.int 4), (.ref b576)]) _
   refine XS.iloadN X615.here hx rfl (hb hby at_214) rfl ?_
   show GO p e below T615 (mkF m 215 (la17 p0 p1 p2 p3 p4 p5 uw xl r_183 (7 : Int32) pp xx b576) [(.int p3), (.int xx), (.int pp), (.int uw), (.ref r_183), (.int 4), (.int 4), (.ref b576)]) _
   refine XS.iload X615.here hx rfl (hb hby at_215) rfl ?_
   show GO p e below T615 (mkF m 217 (la17 p0 p1 p2 p3 p4 p5 uw xl r_183 (7 : Int32) pp xx b576) [(.int p4), (.int p3), (.int xx), (.int pp), (.int uw), (.ref r_183), (.int 4), (.int 4), (.ref b576)]) _
   refine XS.iload X615.here hx rfl (hb hby at_217) rfl ?_
   show GO p e below T615 (mkF m 219 (la17 p0 p1 p2 p3 p4 p5 uw xl r_183 (7 : Int32) pp xx b576) [(.int p5), (.int p4), (.int p3), (.int xx), (.int pp), (.int uw), (.ref r_183), (.int 4), (.int 4), (.ref b576)]) _
   refine st617 _ ?_
   show GO p e below T617 (mkF m 222 (la17 p0 p1 p2 p3 p4 p5 uw xl r_183 (7 : Int32) pp xx b576) [(.int cv_617), (.int 4), (.ref b576)]) _
   refine st624 _ ?_
   show GO p e below T624 (mkF m 223 (la17 p0 p1 p2 p3 p4 p5 uw xl r_183 (7 : Int32) pp xx b576) []) _
   refine XS.iload X624.here hx rfl (hb hby at_223) rfl ?_
   show GO p e below T624 (mkF m 225 (la17 p0 p1 p2 p3 p4 p5 uw xl r_183 (7 : Int32) pp xx b576) [(.int 7)]) _
   refine XS.iconst X624.here hx rfl (hb hby at_225) ?_
   show GO p e below T624 (mkF m 226 (la17 p0 p1 p2 p3 p4 p5 uw xl r_183 (7 : Int32) pp xx b576) [(.int 5), (.int 7)]) _
   refine XS.icmpNo X624.here hx rfl (hb hby at_226) rfl (tlt ((by decide) : (5 : Int32) < (7 : Int32))).2.2.2 ?_
   show GO p e below T624 (mkF m 229 (la17 p0 p1 p2 p3 p4 p5 uw xl r_183 (7 : Int32) pp xx b576) []) _
   refine XS.aload X624.here hx rfl (hb hby at_229) rfl rfl ?_
   show GO p e below T624 (mkF m 231 (la17 p0 p1 p2 p3 p4 p5 uw xl r_183 (7 : Int32) pp xx b576) [(.ref b576)]) _
   refine XS.iconst X624.here hx rfl (hb hby at_231) ?_
   show GO p e below T624 (mkF m 232 (la17 p0 p1 p2 p3 p4 p5 uw xl r_183 (7 : Int32) pp xx b576) [(.int 5), (.ref b576)]) _
   refine XS.iconst X624.here hx rfl (hb hby at_232) ?_
   show GO p e below T624 (mkF m 233 (la17 p0 p1 p2 p3 p4 p5 uw xl r_183 (7 : Int32) pp xx b576) [(.int 5), (.int 5), (.ref b576)]) _
   refine XS.aload X624.here hx rfl (hb hby at_233) rfl rfl ?_
   show GO p e below T624 (mkF m 235 (la17 p0 p1 p2 p3 p4 p5 uw xl r_183 (7 : Int32) pp xx b576) [(.ref r_183), (.int 5), (.int 5), (.ref b576)]) _
   refine XS.iload X624.here hx rfl (hb hby at_235) rfl ?_
   show GO p e below T624 (mkF m 237 (la17 p0 p1 p2 p3 p4 p5 uw xl r_183 (7 : Int32) pp xx b576) [(.int uw), (.ref r_183), (.int 5), (.int 5), (.ref b576)]) _
   refine XS.iload X624.here hx rfl (hb hby at_237) rfl ?_
   show GO p e below T624 (mkF m 239 (la17 p0 p1 p2 p3 p4 p5 uw xl r_183 (7 : Int32) pp xx b576) [(.int pp), (.int uw), (.ref r_183), (.int 5), (.int 5), (.ref b576)]) _
   refine XS.iload X624.here hx rfl (hb hby at_239) rfl ?_
   show GO p e below T624 (mkF m 241 (la17 p0 p1 p2 p3 p4 p5 uw xl r_183 (7 : Int32) pp xx b576) [(.int xx), (.int pp), (.int uw), (.ref r_183), (.int 5), (.int 5), (.ref b576)]) _
   refine XS.iloadN X624.here hx rfl (hb hby at_241) rfl ?_
   show GO p e below T624 (mkF m 242 (la17 p0 p1 p2 p3 p4 p5 uw xl r_183 (7 : Int32) pp xx b576) [(.int p3), (.int xx), (.int pp), (.int uw), (.ref r_183), (.int 5), (.int 5), (.ref b576)]) _
   refine XS.iload X624.here hx rfl (hb hby at_242) rfl ?_
   show GO p e below T624 (mkF m 244 (la17 p0 p1 p2 p3 p4 p5 uw xl r_183 (7 : Int32) pp xx b576) [(.int p4), (.int p3), (.int xx), (.int pp), (.int uw), (.ref r_183), (.int 5), (.int 5), (.ref b576)]) _
   refine XS.iload X624.here hx rfl (hb hby at_244) rfl ?_
   show GO p e below T624 (mkF m 246 (la17 p0 p1 p2 p3 p4 p5 uw xl r_183 (7 : Int32) pp xx b576) [(.int p5), (.int p4), (.int p3), (.int xx), (.int pp), (.int uw), (.ref r_183), (.int 5), (.int 5), (.ref b576)]) _
   refine st626 _ ?_
   show GO p e below T626 (mkF m 249 (la17 p0 p1 p2 p3 p4 p5 uw xl r_183 (7 : Int32) pp xx b576) [(.int cv_626), (.int 5), (.ref b576)]) _
   refine st633 _ ?_
   show GO p e below T633 (mkF m 250 (la17 p0 p1 p2 p3 p4 p5 uw xl r_183 (7 : Int32) pp xx b576) []) _
   refine XS.iload X633.here hx rfl (hb hby at_250) rfl ?_
   show GO p e below T633 (mkF m 252 (la17 p0 p1 p2 p3 p4 p5 uw xl r_183 (7 : Int32) pp xx b576) [(.int 7)]) _
   refine XS.bipush X633.here hx rfl (hb hby at_252) ?_
   show GO p e below T633 (mkF m 254 (la17 p0 p1 p2 p3 p4 p5 uw xl r_183 (7 : Int32) pp xx b576) [(.int 6), (.int 7)]) _
   refine XS.icmpNo X633.here hx rfl (hb hby at_254) rfl (tlt ((by decide) : (6 : Int32) < (7 : Int32))).2.2.2 ?_
   show GO p e below T633 (mkF m 257 (la17 p0 p1 p2 p3 p4 p5 uw xl r_183 (7 : Int32) pp xx b576) []) _
   refine XS.aload X633.here hx rfl (hb hby at_257) rfl rfl ?_
   show GO p e below T633 (mkF m 259 (la17 p0 p1 p2 p3 p4 p5 uw xl r_183 (7 : Int32) pp xx b576) [(.ref b576)]) _
   refine XS.bipush X633.here hx rfl (hb hby at_259) ?_
   show GO p e below T633 (mkF m 261 (la17 p0 p1 p2 p3 p4 p5 uw xl r_183 (7 : Int32) pp xx b576) [(.int 6), (.ref b576)]) _
   refine XS.bipush X633.here hx rfl (hb hby at_261) ?_
   show GO p e below T633 (mkF m 263 (la17 p0 p1 p2 p3 p4 p5 uw xl r_183 (7 : Int32) pp xx b576) [(.int 6), (.int 6), (.ref b576)]) _
   refine XS.aload X633.here hx rfl (hb hby at_263) rfl rfl ?_
   show GO p e below T633 (mkF m 265 (la17 p0 p1 p2 p3 p4 p5 uw xl r_183 (7 : Int32) pp xx b576) [(.ref r_183), (.int 6), (.int 6), (.ref b576)]) _
   refine XS.iload X633.here hx rfl (hb hby at_265) rfl ?_
   show GO p e below T633 (mkF m 267 (la17 p0 p1 p2 p3 p4 p5 uw xl r_183 (7 : Int32) pp xx b576) [(.int uw), (.ref r_183), (.int 6), (.int 6), (.ref b576)]) _
   refine XS.iload X633.here hx rfl (hb hby at_267) rfl ?_
   show GO p e below T633 (mkF m 269 (la17 p0 p1 p2 p3 p4 p5 uw xl r_183 (7 : Int32) pp xx b576) [(.int pp), (.int uw), (.ref r_183), (.int 6), (.int 6), (.ref b576)]) _
   refine XS.iload X633.here hx rfl (hb hby at_269) rfl ?_
   show GO p e below T633 (mkF m 271 (la17 p0 p1 p2 p3 p4 p5 uw xl r_183 (7 : Int32) pp xx b576) [(.int xx), (.int pp), (.int uw), (.ref r_183), (.int 6), (.int 6), (.ref b576)]) _
   refine XS.iloadN X633.here hx rfl (hb hby at_271) rfl ?_
   show GO p e below T633 (mkF m 272 (la17 p0 p1 p2 p3 p4 p5 uw xl r_183 (7 : Int32) pp xx b576) [(.int p3), (.int xx), (.int pp), (.int uw), (.ref r_183), (.int 6), (.int 6), (.ref b576)]) _
   refine XS.iload X633.here hx rfl (hb hby at_272) rfl ?_
   show GO p e below T633 (mkF m 274 (la17 p0 p1 p2 p3 p4 p5 uw xl r_183 (7 : Int32) pp xx b576) [(.int p4), (.int p3), (.int xx), (.int pp), (.int uw), (.ref r_183), (.int 6), (.int 6), (.ref b576)]) _
   refine XS.iload X633.here hx rfl (hb hby at_274) rfl ?_
   show GO p e below T633 (mkF m 276 (la17 p0 p1 p2 p3 p4 p5 uw xl r_183 (7 : Int32) pp xx b576) [(.int p5), (.int p4), (.int p3), (.int xx), (.int pp), (.int uw), (.ref r_183), (.int 6), (.int 6), (.ref b576)]) _
   refine st635 _ ?_
   show GO p e below T635 (mkF m 279 (la17 p0 p1 p2 p3 p4 p5 uw xl r_183 (7 : Int32) pp xx b576) [(.int cv_635), (.int 6), (.ref b576)]) _
   refine st642 _ ?_
   show GO p e below T642 (mkF m 280 (la17 p0 p1 p2 p3 p4 p5 uw xl r_183 (7 : Int32) pp xx b576) []) _
   refine XS.iload X642.here hx rfl (hb hby at_280) rfl ?_
   show GO p e below T642 (mkF m 282 (la17 p0 p1 p2 p3 p4 p5 uw xl r_183 (7 : Int32) pp xx b576) [(.int 7)]) _
   refine XS.bipush X642.here hx rfl (hb hby at_282) ?_
   show GO p e below T642 (mkF m 284 (la17 p0 p1 p2 p3 p4 p5 uw xl r_183 (7 : Int32) pp xx b576) [(.int 7), (.int 7)]) _
   refine XS.icmpYes X642.here hx rfl (pc0 := 284) (pc' := 310) rfl (hb hby at_284) rfl (flt ((by decide) : ¬ ((7 : Int32) < (7 : Int32)))).2.2.2 (by decide) (by decide) ?_
   show GO p e below T642 (mkF m 310 (la17 p0 p1 p2 p3 p4 p5 uw xl r_183 (7 : Int32) pp xx b576) []) _
   refine XS.iload X642.here hx rfl (hb hby at_310) rfl ?_
   show GO p e below T642 (mkF m 312 (la17 p0 p1 p2 p3 p4 p5 uw xl r_183 (7 : Int32) pp xx b576) [(.int 7)]) _
   refine XS.bipush X642.here hx rfl (hb hby at_312) ?_
   show GO p e below T642 (mkF m 314 (la17 p0 p1 p2 p3 p4 p5 uw xl r_183 (7 : Int32) pp xx b576) [(.int 8), (.int 7)]) _
   refine XS.icmpYes X642.here hx rfl (pc0 := 314) (pc' := 340) rfl (hb hby at_314) rfl (flt ((by decide) : ¬ ((8 : Int32) < (7 : Int32)))).2.2.2 (by decide) (by decide) ?_
   show GO p e below T642 (mkF m 340 (la17 p0 p1 p2 p3 p4 p5 uw xl r_183 (7 : Int32) pp xx b576) []) _
   refine XS.iload X642.here hx rfl (hb hby at_340) rfl ?_
   show GO p e below T642 (mkF m 342 (la17 p0 p1 p2 p3 p4 p5 uw xl r_183 (7 : Int32) pp xx b576) [(.int 7)]) _
   refine XS.bipush X642.here hx rfl (hb hby at_342) ?_
   show GO p e below T642 (mkF m 344 (la17 p0 p1 p2 p3 p4 p5 uw xl r_183 (7 : Int32) pp xx b576) [(.int 9), (.int 7)]) _
   refine XS.icmpYes X642.here hx rfl (pc0 := 344) (pc' := 370) rfl (hb hby at_344) rfl (flt ((by decide) : ¬ ((9 : Int32) < (7 : Int32)))).2.2.2 (by decide) (by decide) ?_
   show GO p e below T642 (mkF m 370 (la17 p0 p1 p2 p3 p4 p5 uw xl r_183 (7 : Int32) pp xx b576) []) _
   refine st645 _ ?_
   show GO p e below T645 (mkF m 373 (la17 p0 p1 p2 p3 p4 p5 uw xl r_183 (7 : Int32) pp xx b576) [(.ref b645)]) _
   refine XS.dup X645.here hx rfl (hb hby at_373) rfl rfl ?_
   show GO p e below T645 (mkF m 374 (la17 p0 p1 p2 p3 p4 p5 uw xl r_183 (7 : Int32) pp xx b576) [(.ref b645), (.ref b645)]) _
   refine XS.aload X645.here hx rfl (hb hby at_374) rfl rfl ?_
   show GO p e below T645 (mkF m 376 (la17 p0 p1 p2 p3 p4 p5 uw xl r_183 (7 : Int32) pp xx b576) [(.ref b576), (.ref b645), (.ref b645)]) _
   refine st652.trans ?_
   show GO p e below T652 (mkF m 379 (la17 p0 p1 p2 p3 p4 p5 uw xl r_183 (7 : Int32) pp xx b576) [(.ref b645)]) _
   refine XS.astore X652.here hx rfl (hb hby at_379) rfl rfl (l' := (la18 p0 p1 p2 p3 p4 p5 uw xl r_183 (7 : Int32) pp xx b576 b645)) rfl ?_
   show GO p e below T652 (mkF m 381 (la18 p0 p1 p2 p3 p4 p5 uw xl r_183 (7 : Int32) pp xx b576 b645) []) _
   refine XS.aload X652.here hx rfl (hb hby at_381) rfl rfl ?_
   show GO p e below T652 (mkF m 383 (la18 p0 p1 p2 p3 p4 p5 uw xl r_183 (7 : Int32) pp xx b576 b645) [(.ref b645)]) _
   refine st656 _ ?_
   show GO p e below T656 (mkF m 386 (la18 p0 p1 p2 p3 p4 p5 uw xl r_183 (7 : Int32) pp xx b576 b645) [(own_pick ([cv_578, cv_589, cv_599, cv_608, cv_617, cv_626, cv_635] : List Int32) u0 u1 u2 u3)]) _
   refine XS.aload X656.here hx rfl (hb hby at_386) rfl rfl ?_
   show GO p e below T656 (mkF m 388 (la18 p0 p1 p2 p3 p4 p5 uw xl r_183 (7 : Int32) pp xx b576 b645) [(.ref b645), (own_pick ([cv_578, cv_589, cv_599, cv_608, cv_617, cv_626, cv_635] : List Int32) u0 u1 u2 u3)]) _
   refine st660.trans ?_
   show GO p e below T660 (mkF m 391 (la18 p0 p1 p2 p3 p4 p5 uw xl r_183 (7 : Int32) pp xx b576 b645) [(own_pick ([cv_578, cv_589, cv_599, cv_608, cv_617, cv_626, cv_635] : List Int32) u0 u1 u2 u3), (own_pick ([cv_578, cv_589, cv_599, cv_608, cv_617, cv_626, cv_635] : List Int32) u0 u1 u2 u3)]) _
   refine Jvm.RoadKit.acmp (g := (mkF m 391 (la18 p0 p1 p2 p3 p4 p5 uw xl r_183 (7 : Int32) pp xx b576 b645) [(own_pick ([cv_578, cv_589, cv_599, cv_608, cv_617, cv_626, cv_635] : List Int32) u0 u1 u2 u3), (own_pick ([cv_578, cv_589, cv_599, cv_608, cv_617, cv_626, cv_635] : List Int32) u0 u1 u2 u3)])) X660 hx rfl (own_pickref _ _ _ _ _) (own_pickref _ _ _ _ _) (pc0 := 391) (pc' := 394) (same := true) rfl (hb hby at_391) rfl (decide_eq_true rfl) (by decide) (by decide) ?_
   show GO p e below T660 (mkF m 394 (la18 p0 p1 p2 p3 p4 p5 uw xl r_183 (7 : Int32) pp xx b576 b645) []) _
   refine XS.iconst X660.here hx rfl (hb hby at_394) ?_
   show GO p e below T660 (mkF m 395 (la18 p0 p1 p2 p3 p4 p5 uw xl r_183 (7 : Int32) pp xx b576 b645) [(.int 1)]) _
   refine XS.goto X660.here hx rfl (pc0 := 395) (pc' := 399) rfl (hb hby at_395) (by decide) (by decide) ?_
   show GO p e below T660 (mkF m 399 (la18 p0 p1 p2 p3 p4 p5 uw xl r_183 (7 : Int32) pp xx b576 b645) [(.int 1)]) _
   exact retN X660 hx (t := .boolean) Bd.returns (by simp) (hb hby at_399) hr
  ·show Qrm0 Z p0 p1 p2 p3 p4 p5 z0 f0 va u0 u1 u2 u3 w0 w1 w2 w3 y0 y1 y2 y3 kV b0 b1 b2 b3 h0 n0 _ T660.heap _
   rw [e660]
   exact ⟨rfl, N660⟩
  ·show CHr Z EL1 s.vm s.heap T660.vm T660.heap
   rw [hh, e660]
   exact CE
 ·obtain ⟨T667, h667, k667, X667, e667, E667, A667, st667⟩ := newP X186 hx hZ183 (wd hw 13 rfl) e186 (g := (mkF m 85 (la16 p0 p1 p2 p3 p4 p5 uw xl r_183 (8 : Int32) pp xx) [(.int 8)])) rfl (hb hby at_85) rfl (by decide) (cap := 8) (by decide) (by decide) (by decide) (by decide)
  obtain ⟨b667, g667⟩ : ∃ z, z = h183.size := ⟨_, rfl⟩
  rw [← g667] at A667 st667
  have C668 : CHr Z EL1 s.vm h0 T183.vm h667 := C184.trans (CHr.ext E667 C184.1)
  have sz667 : h183.size ≤ h667.size := E667.1
  have nz667 := Nat.le_trans nz183 sz667
  have lt667 := ltA A667.lt
  have V667 : Arv Z h667 b667 k667 .char (8 : Int32) [(.int 0), (.int 0), (.int 0), (.int 0), (.int 0), (.int 0), (.int 0), (.int 0)] (.int 0) := (Arv.new A667 (by decide)).pad (pad_rep [] (.int 0) 8)
  -- pc 111: KindNamedPinLaw.at by rm_at
  have f670 : Old Z n0 h667 := ((O0.keep K183 all0).ext E667)
  have f671 : Exa Z h667 r_183 kS0 := (p183_0.ext E667)
  have f672 : Fld Z h667 r_183 kS0 "coder" "B" (.int 0) := (p183_1.ext E667)
  have f673 : Fld Z h667 r_183 kS0 "value" "[B" (.ref t_183) := (p183_2.ext E667)
  have f674 : Arv Z h667 t_183 k_183 .byte N_183 vs_183 (.int 0) := (p183_3.ext E667)
  obtain ⟨_, _, ⟨T669, L669, k669, n669⟩, -, X669, ⟨Lc669, hQ669, l669, y669, z669⟩, st669⟩ := Jvm.LawKit.callS X667 hx (y := (⟨kS1, "at", kS3⟩ : MethodName)) hown183 (mvT hZ183 (wd hw 14 rfl)) (mvT hZ183 (wd hw 15 rfl)) (mvT hZ183 (wd hw 2 rfl)) (mvT hZ183 (wd hw 16 rfl)) (by decide) (backOf (W := 2) (rm_at l Z a0 hw [] (0 : Int32) uw pp xx p3 p4 p5 r_183 t_183 k_183 N_183 vs_183 cs_183 z0 f0 h667 n0 nz667 f670 f671 f672 f673 f674 (by first | assumption | decide | omega) (by first | assumption | decide | omega) (by first | assumption | decide | omega) (by first | assumption | decide | omega) r183_0 r183_1 r183_2 r183_3 (by decide) rxx qxx) hZ183 (wd hw 16 rfl) (wd hw 2 rfl) (by decide) (by decide)) (g := (mkF m 111 (la17 p0 p1 p2 p3 p4 p5 uw xl r_183 (8 : Int32) pp xx b667) [(.int p5), (.int p4), (.int p3), (.int xx), (.int pp), (.int uw), (.ref r_183), (.int 0), (.int 0), (.ref b667)])) rfl (by rw [hml]; rfl) (argsL := [(.int 0), (.ref r_183), (.int uw), (.int pp), (.int xx), (.int p3), (.int p4), (.int p5)]) (rest := [(.int 0), (.ref b667)]) (lenOf pd_9 rfl) rfl (wz rfl) (hb hby at_111) (fun _ _ => ⟨rfl, e667, (by decide : 3 + 0 ≤ _), (by decide : 48 + 0 ≤ _)⟩)
  dsimp only [Pt.U, Pt.locs, Pt.cells, Pt.slots] at X669 l669 y669 z669 st669 hQ669
  rw [l669, y669, z669] at X669
  obtain ⟨cv_669, rfl, N669q, e669, r669_0, r669_1⟩ := hQ669
  have N669 := Fr.app N186 N669q
  obtain ⟨cl675, Ar675, q675, S675, M675, H675, G675⟩ := id V667
  have hin675 : ¬ ((0 : Int32) < 0 ∨ cl675.slots.size ≤ ((0 : Int32)).toNatClampNeg) := inb_of S675 ⟨by decide, by decide⟩
  obtain ⟨T676, h676, X676, e676, W676, st676⟩ := stC X669 hx hZ183 e669 Ar675 (j := (0 : Int32)) hin675 (g := (mkF m 114 (la17 p0 p1 p2 p3 p4 p5 uw xl r_183 (8 : Int32) pp xx b667) [(.int cv_669), (.int 0), (.ref b667)])) rfl rfl (hb hby at_114)
  have ge677 : n0 ≤ b667 := by omega
  have N676 := Fr.snoc X676 N669 ge677
  have ne678 : b667 ≠ r_183 := Ne.symm (Exa.neArv f671 V667 (wd hw 6 rfl))
  have C679 : CHr Z EL1 s.vm h0 T183.vm h676 := C668.trans (CHr.wr W676 (Safe.arv hZ183.alike V667 (by decide)) C668.1)
  have sz676 : h667.size ≤ h676.size := Nat.le_of_eq W676.size.symm
  have nz676 := Nat.le_trans nz667 sz676
  have V676 : Arv Z h676 b667 k667 .char (8 : Int32) [(.int (nar .char cv_669)), (.int 0), (.int 0), (.int 0), (.int 0), (.int 0), (.int 0), (.int 0)] (.int 0) := Arv.set Ar675 q675 S675 M675 H675 G675 (fits_nar_char _) W676 0 rfl (Nat.le_of_ble_eq_true rfl)
  -- pc 138: KindNamedPinLaw.at by rm_at
  have f681 : Old Z n0 h676 := (f670.wr W676 ge677)
  have f682 : Exa Z h676 r_183 kS0 := (f671.wr W676)
  have f683 : Fld Z h676 r_183 kS0 "coder" "B" (.int 0) := (f672.other W676 (Or.inl (Ne.symm ne678)))
  have f684 : Fld Z h676 r_183 kS0 "value" "[B" (.ref t_183) := (f673.other W676 (Or.inl (Ne.symm ne678)))
  have ne685 : t_183 ≠ b667 := neN (by omega)
  have f686 : Arv Z h676 t_183 k_183 .byte N_183 vs_183 (.int 0) := (f674.other W676 ne685)
  obtain ⟨_, _, ⟨T680, L680, k680, n680⟩, -, X680, ⟨Lc680, hQ680, l680, y680, z680⟩, st680⟩ := Jvm.LawKit.callS X676 hx (y := (⟨kS1, "at", kS3⟩ : MethodName)) hown183 (mvT hZ183 (wd hw 14 rfl)) (mvT hZ183 (wd hw 15 rfl)) (mvT hZ183 (wd hw 2 rfl)) (mvT hZ183 (wd hw 16 rfl)) (by decide) (backOf (W := 2) (rm_at l Z a0 hw [] (1 : Int32) uw pp xx p3 p4 p5 r_183 t_183 k_183 N_183 vs_183 cs_183 z0 f0 h676 n0 nz676 f681 f682 f683 f684 f686 (by first | assumption | decide | omega) (by first | assumption | decide | omega) (by first | assumption | decide | omega) (by first | assumption | decide | omega) r183_0 r183_1 r183_2 r183_3 (by decide) rxx qxx) hZ183 (wd hw 16 rfl) (wd hw 2 rfl) (by decide) (by decide)) (g := (mkF m 138 (la17 p0 p1 p2 p3 p4 p5 uw xl r_183 (8 : Int32) pp xx b667) [(.int p5), (.int p4), (.int p3), (.int xx), (.int pp), (.int uw), (.ref r_183), (.int 1), (.int 1), (.ref b667)])) rfl (by rw [hml]; rfl) (argsL := [(.int 1), (.ref r_183), (.int uw), (.int pp), (.int xx), (.int p3), (.int p4), (.int p5)]) (rest := [(.int 1), (.ref b667)]) (lenOf pd_9 rfl) rfl (wz rfl) (hb hby at_138) (fun _ _ => ⟨rfl, e676, (by decide : 3 + 0 ≤ _), (by decide : 48 + 0 ≤ _)⟩)
  dsimp only [Pt.U, Pt.locs, Pt.cells, Pt.slots] at X680 l680 y680 z680 st680 hQ680
  rw [l680, y680, z680] at X680
  obtain ⟨cv_680, rfl, N680q, e680, r680_0, r680_1⟩ := hQ680
  have N680 := Fr.app N676 N680q
  obtain ⟨cl687, Ar687, q687, S687, M687, H687, G687⟩ := id V676
  have hin687 : ¬ ((1 : Int32) < 0 ∨ cl687.slots.size ≤ ((1 : Int32)).toNatClampNeg) := inb_of S687 ⟨by decide, by decide⟩
  obtain ⟨T688, h688, X688, e688, W688, st688⟩ := stC X680 hx hZ183 e680 Ar687 (j := (1 : Int32)) hin687 (g := (mkF m 141 (la17 p0 p1 p2 p3 p4 p5 uw xl r_183 (8 : Int32) pp xx b667) [(.int cv_680), (.int 1), (.ref b667)])) rfl rfl (hb hby at_141)
  have N688 := Fr.snoc X688 N680 ge677
  have C689 : CHr Z EL1 s.vm h0 T183.vm h688 := C679.trans (CHr.wr W688 (Safe.arv hZ183.alike V676 (by decide)) C679.1)
  have sz688 : h676.size ≤ h688.size := Nat.le_of_eq W688.size.symm
  have nz688 := Nat.le_trans nz676 sz688
  have V688 : Arv Z h688 b667 k667 .char (8 : Int32) [(.int (nar .char cv_669)), (.int (nar .char cv_680)), (.int 0), (.int 0), (.int 0), (.int 0), (.int 0), (.int 0)] (.int 0) := Arv.set Ar687 q687 S687 M687 H687 G687 (fits_nar_char _) W688 1 rfl (Nat.le_of_ble_eq_true rfl)
  -- pc 165: KindNamedPinLaw.at by rm_at
  have f691 : Old Z n0 h688 := (f681.wr W688 ge677)
  have f692 : Exa Z h688 r_183 kS0 := (f682.wr W688)
  have f693 : Fld Z h688 r_183 kS0 "coder" "B" (.int 0) := (f683.other W688 (Or.inl (Ne.symm ne678)))
  have f694 : Fld Z h688 r_183 kS0 "value" "[B" (.ref t_183) := (f684.other W688 (Or.inl (Ne.symm ne678)))
  have f695 : Arv Z h688 t_183 k_183 .byte N_183 vs_183 (.int 0) := (f686.other W688 ne685)
  obtain ⟨_, _, ⟨T690, L690, k690, n690⟩, -, X690, ⟨Lc690, hQ690, l690, y690, z690⟩, st690⟩ := Jvm.LawKit.callS X688 hx (y := (⟨kS1, "at", kS3⟩ : MethodName)) hown183 (mvT hZ183 (wd hw 14 rfl)) (mvT hZ183 (wd hw 15 rfl)) (mvT hZ183 (wd hw 2 rfl)) (mvT hZ183 (wd hw 16 rfl)) (by decide) (backOf (W := 2) (rm_at l Z a0 hw [] (2 : Int32) uw pp xx p3 p4 p5 r_183 t_183 k_183 N_183 vs_183 cs_183 z0 f0 h688 n0 nz688 f691 f692 f693 f694 f695 (by first | assumption | decide | omega) (by first | assumption | decide | omega) (by first | assumption | decide | omega) (by first | assumption | decide | omega) r183_0 r183_1 r183_2 r183_3 (by decide) rxx qxx) hZ183 (wd hw 16 rfl) (wd hw 2 rfl) (by decide) (by decide)) (g := (mkF m 165 (la17 p0 p1 p2 p3 p4 p5 uw xl r_183 (8 : Int32) pp xx b667) [(.int p5), (.int p4), (.int p3), (.int xx), (.int pp), (.int uw), (.ref r_183), (.int 2), (.int 2), (.ref b667)])) rfl (by rw [hml]; rfl) (argsL := [(.int 2), (.ref r_183), (.int uw), (.int pp), (.int xx), (.int p3), (.int p4), (.int p5)]) (rest := [(.int 2), (.ref b667)]) (lenOf pd_9 rfl) rfl (wz rfl) (hb hby at_165) (fun _ _ => ⟨rfl, e688, (by decide : 3 + 0 ≤ _), (by decide : 48 + 0 ≤ _)⟩)
  dsimp only [Pt.U, Pt.locs, Pt.cells, Pt.slots] at X690 l690 y690 z690 st690 hQ690
  rw [l690, y690, z690] at X690
  obtain ⟨cv_690, rfl, N690q, e690, r690_0, r690_1⟩ := hQ690
  have N690 := Fr.app N688 N690q
  obtain ⟨cl696, Ar696, q696, S696, M696, H696, G696⟩ := id V688
  have hin696 : ¬ ((2 : Int32) < 0 ∨ cl696.slots.size ≤ ((2 : Int32)).toNatClampNeg) := inb_of S696 ⟨by decide, by decide⟩
  obtain ⟨T697, h697, X697, e697, W697, st697⟩ := stC X690 hx hZ183 e690 Ar696 (j := (2 : Int32)) hin696 (g := (mkF m 168 (la17 p0 p1 p2 p3 p4 p5 uw xl r_183 (8 : Int32) pp xx b667) [(.int cv_690), (.int 2), (.ref b667)])) rfl rfl (hb hby at_168)
  have N697 := Fr.snoc X697 N690 ge677
  have C698 : CHr Z EL1 s.vm h0 T183.vm h697 := C689.trans (CHr.wr W697 (Safe.arv hZ183.alike V688 (by decide)) C689.1)
  have sz697 : h688.size ≤ h697.size := Nat.le_of_eq W697.size.symm
  have nz697 := Nat.le_trans nz688 sz697
  have V697 : Arv Z h697 b667 k667 .char (8 : Int32) [(.int (nar .char cv_669)), (.int (nar .char cv_680)), (.int (nar .char cv_690)), (.int 0), (.int 0), (.int 0), (.int 0), (.int 0)] (.int 0) := Arv.set Ar696 q696 S696 M696 H696 G696 (fits_nar_char _) W697 2 rfl (Nat.le_of_ble_eq_true rfl)
  -- pc 192: KindNamedPinLaw.at by rm_at
  have f700 : Old Z n0 h697 := (f691.wr W697 ge677)
  have f701 : Exa Z h697 r_183 kS0 := (f692.wr W697)
  have f702 : Fld Z h697 r_183 kS0 "coder" "B" (.int 0) := (f693.other W697 (Or.inl (Ne.symm ne678)))
  have f703 : Fld Z h697 r_183 kS0 "value" "[B" (.ref t_183) := (f694.other W697 (Or.inl (Ne.symm ne678)))
  have f704 : Arv Z h697 t_183 k_183 .byte N_183 vs_183 (.int 0) := (f695.other W697 ne685)
  obtain ⟨_, _, ⟨T699, L699, k699, n699⟩, -, X699, ⟨Lc699, hQ699, l699, y699, z699⟩, st699⟩ := Jvm.LawKit.callS X697 hx (y := (⟨kS1, "at", kS3⟩ : MethodName)) hown183 (mvT hZ183 (wd hw 14 rfl)) (mvT hZ183 (wd hw 15 rfl)) (mvT hZ183 (wd hw 2 rfl)) (mvT hZ183 (wd hw 16 rfl)) (by decide) (backOf (W := 2) (rm_at l Z a0 hw [] (3 : Int32) uw pp xx p3 p4 p5 r_183 t_183 k_183 N_183 vs_183 cs_183 z0 f0 h697 n0 nz697 f700 f701 f702 f703 f704 (by first | assumption | decide | omega) (by first | assumption | decide | omega) (by first | assumption | decide | omega) (by first | assumption | decide | omega) r183_0 r183_1 r183_2 r183_3 (by decide) rxx qxx) hZ183 (wd hw 16 rfl) (wd hw 2 rfl) (by decide) (by decide)) (g := (mkF m 192 (la17 p0 p1 p2 p3 p4 p5 uw xl r_183 (8 : Int32) pp xx b667) [(.int p5), (.int p4), (.int p3), (.int xx), (.int pp), (.int uw), (.ref r_183), (.int 3), (.int 3), (.ref b667)])) rfl (by rw [hml]; rfl) (argsL := [(.int 3), (.ref r_183), (.int uw), (.int pp), (.int xx), (.int p3), (.int p4), (.int p5)]) (rest := [(.int 3), (.ref b667)]) (lenOf pd_9 rfl) rfl (wz rfl) (hb hby at_192) (fun _ _ => ⟨rfl, e697, (by decide : 3 + 0 ≤ _), (by decide : 48 + 0 ≤ _)⟩)
  dsimp only [Pt.U, Pt.locs, Pt.cells, Pt.slots] at X699 l699 y699 z699 st699 hQ699
  rw [l699, y699, z699] at X699
  obtain ⟨cv_699, rfl, N699q, e699, r699_0, r699_1⟩ := hQ699
  have N699 := Fr.app N697 N699q
  obtain ⟨cl705, Ar705, q705, S705, M705, H705, G705⟩ := id V697
  have hin705 : ¬ ((3 : Int32) < 0 ∨ cl705.slots.size ≤ ((3 : Int32)).toNatClampNeg) := inb_of S705 ⟨by decide, by decide⟩
  obtain ⟨T706, h706, X706, e706, W706, st706⟩ := stC X699 hx hZ183 e699 Ar705 (j := (3 : Int32)) hin705 (g := (mkF m 195 (la17 p0 p1 p2 p3 p4 p5 uw xl r_183 (8 : Int32) pp xx b667) [(.int cv_699), (.int 3), (.ref b667)])) rfl rfl (hb hby at_195)
  have N706 := Fr.snoc X706 N699 ge677
  have C707 : CHr Z EL1 s.vm h0 T183.vm h706 := C698.trans (CHr.wr W706 (Safe.arv hZ183.alike V697 (by decide)) C698.1)
  have sz706 : h697.size ≤ h706.size := Nat.le_of_eq W706.size.symm
  have nz706 := Nat.le_trans nz697 sz706
  have V706 : Arv Z h706 b667 k667 .char (8 : Int32) [(.int (nar .char cv_669)), (.int (nar .char cv_680)), (.int (nar .char cv_690)), (.int (nar .char cv_699)), (.int 0), (.int 0), (.int 0), (.int 0)] (.int 0) := Arv.set Ar705 q705 S705 M705 H705 G705 (fits_nar_char _) W706 3 rfl (Nat.le_of_ble_eq_true rfl)
  -- pc 219: KindNamedPinLaw.at by rm_at
  have f709 : Old Z n0 h706 := (f700.wr W706 ge677)
  have f710 : Exa Z h706 r_183 kS0 := (f701.wr W706)
  have f711 : Fld Z h706 r_183 kS0 "coder" "B" (.int 0) := (f702.other W706 (Or.inl (Ne.symm ne678)))
  have f712 : Fld Z h706 r_183 kS0 "value" "[B" (.ref t_183) := (f703.other W706 (Or.inl (Ne.symm ne678)))
  have f713 : Arv Z h706 t_183 k_183 .byte N_183 vs_183 (.int 0) := (f704.other W706 ne685)
  obtain ⟨_, _, ⟨T708, L708, k708, n708⟩, -, X708, ⟨Lc708, hQ708, l708, y708, z708⟩, st708⟩ := Jvm.LawKit.callS X706 hx (y := (⟨kS1, "at", kS3⟩ : MethodName)) hown183 (mvT hZ183 (wd hw 14 rfl)) (mvT hZ183 (wd hw 15 rfl)) (mvT hZ183 (wd hw 2 rfl)) (mvT hZ183 (wd hw 16 rfl)) (by decide) (backOf (W := 2) (rm_at l Z a0 hw [] (4 : Int32) uw pp xx p3 p4 p5 r_183 t_183 k_183 N_183 vs_183 cs_183 z0 f0 h706 n0 nz706 f709 f710 f711 f712 f713 (by first | assumption | decide | omega) (by first | assumption | decide | omega) (by first | assumption | decide | omega) (by first | assumption | decide | omega) r183_0 r183_1 r183_2 r183_3 (by decide) rxx qxx) hZ183 (wd hw 16 rfl) (wd hw 2 rfl) (by decide) (by decide)) (g := (mkF m 219 (la17 p0 p1 p2 p3 p4 p5 uw xl r_183 (8 : Int32) pp xx b667) [(.int p5), (.int p4), (.int p3), (.int xx), (.int pp), (.int uw), (.ref r_183), (.int 4), (.int 4), (.ref b667)])) rfl (by rw [hml]; rfl) (argsL := [(.int 4), (.ref r_183), (.int uw), (.int pp), (.int xx), (.int p3), (.int p4), (.int p5)]) (rest := [(.int 4), (.ref b667)]) (lenOf pd_9 rfl) rfl (wz rfl) (hb hby at_219) (fun _ _ => ⟨rfl, e706, (by decide : 3 + 0 ≤ _), (by decide : 48 + 0 ≤ _)⟩)
  dsimp only [Pt.U, Pt.locs, Pt.cells, Pt.slots] at X708 l708 y708 z708 st708 hQ708
  rw [l708, y708, z708] at X708
  obtain ⟨cv_708, rfl, N708q, e708, r708_0, r708_1⟩ := hQ708
  have N708 := Fr.app N706 N708q
  obtain ⟨cl714, Ar714, q714, S714, M714, H714, G714⟩ := id V706
  have hin714 : ¬ ((4 : Int32) < 0 ∨ cl714.slots.size ≤ ((4 : Int32)).toNatClampNeg) := inb_of S714 ⟨by decide, by decide⟩
  obtain ⟨T715, h715, X715, e715, W715, st715⟩ := stC X708 hx hZ183 e708 Ar714 (j := (4 : Int32)) hin714 (g := (mkF m 222 (la17 p0 p1 p2 p3 p4 p5 uw xl r_183 (8 : Int32) pp xx b667) [(.int cv_708), (.int 4), (.ref b667)])) rfl rfl (hb hby at_222)
  have N715 := Fr.snoc X715 N708 ge677
  have C716 : CHr Z EL1 s.vm h0 T183.vm h715 := C707.trans (CHr.wr W715 (Safe.arv hZ183.alike V706 (by decide)) C707.1)
  have sz715 : h706.size ≤ h715.size := Nat.le_of_eq W715.size.symm
  have nz715 := Nat.le_trans nz706 sz715
  have V715 : Arv Z h715 b667 k667 .char (8 : Int32) [(.int (nar .char cv_669)), (.int (nar .char cv_680)), (.int (nar .char cv_690)), (.int (nar .char cv_699)), (.int (nar .char cv_708)), (.int 0), (.int 0), (.int 0)] (.int 0) := Arv.set Ar714 q714 S714 M714 H714 G714 (fits_nar_char _) W715 4 rfl (Nat.le_of_ble_eq_true rfl)
  -- pc 246: KindNamedPinLaw.at by rm_at
  have f718 : Old Z n0 h715 := (f709.wr W715 ge677)
  have f719 : Exa Z h715 r_183 kS0 := (f710.wr W715)
  have f720 : Fld Z h715 r_183 kS0 "coder" "B" (.int 0) := (f711.other W715 (Or.inl (Ne.symm ne678)))
  have f721 : Fld Z h715 r_183 kS0 "value" "[B" (.ref t_183) := (f712.other W715 (Or.inl (Ne.symm ne678)))
  have f722 : Arv Z h715 t_183 k_183 .byte N_183 vs_183 (.int 0) := (f713.other W715 ne685)
  obtain ⟨_, _, ⟨T717, L717, k717, n717⟩, -, X717, ⟨Lc717, hQ717, l717, y717, z717⟩, st717⟩ := Jvm.LawKit.callS X715 hx (y := (⟨kS1, "at", kS3⟩ : MethodName)) hown183 (mvT hZ183 (wd hw 14 rfl)) (mvT hZ183 (wd hw 15 rfl)) (mvT hZ183 (wd hw 2 rfl)) (mvT hZ183 (wd hw 16 rfl)) (by decide) (backOf (W := 2) (rm_at l Z a0 hw [] (5 : Int32) uw pp xx p3 p4 p5 r_183 t_183 k_183 N_183 vs_183 cs_183 z0 f0 h715 n0 nz715 f718 f719 f720 f721 f722 (by first | assumption | decide | omega) (by first | assumption | decide | omega) (by first | assumption | decide | omega) (by first | assumption | decide | omega) r183_0 r183_1 r183_2 r183_3 (by decide) rxx qxx) hZ183 (wd hw 16 rfl) (wd hw 2 rfl) (by decide) (by decide)) (g := (mkF m 246 (la17 p0 p1 p2 p3 p4 p5 uw xl r_183 (8 : Int32) pp xx b667) [(.int p5), (.int p4), (.int p3), (.int xx), (.int pp), (.int uw), (.ref r_183), (.int 5), (.int 5), (.ref b667)])) rfl (by rw [hml]; rfl) (argsL := [(.int 5), (.ref r_183), (.int uw), (.int pp), (.int xx), (.int p3), (.int p4), (.int p5)]) (rest := [(.int 5), (.ref b667)]) (lenOf pd_9 rfl) rfl (wz rfl) (hb hby at_246) (fun _ _ => ⟨rfl, e715, (by decide : 3 + 0 ≤ _), (by decide : 48 + 0 ≤ _)⟩)
  dsimp only [Pt.U, Pt.locs, Pt.cells, Pt.slots] at X717 l717 y717 z717 st717 hQ717
  rw [l717, y717, z717] at X717
  obtain ⟨cv_717, rfl, N717q, e717, r717_0, r717_1⟩ := hQ717
  have N717 := Fr.app N715 N717q
  obtain ⟨cl723, Ar723, q723, S723, M723, H723, G723⟩ := id V715
  have hin723 : ¬ ((5 : Int32) < 0 ∨ cl723.slots.size ≤ ((5 : Int32)).toNatClampNeg) := inb_of S723 ⟨by decide, by decide⟩
  obtain ⟨T724, h724, X724, e724, W724, st724⟩ := stC X717 hx hZ183 e717 Ar723 (j := (5 : Int32)) hin723 (g := (mkF m 249 (la17 p0 p1 p2 p3 p4 p5 uw xl r_183 (8 : Int32) pp xx b667) [(.int cv_717), (.int 5), (.ref b667)])) rfl rfl (hb hby at_249)
  have N724 := Fr.snoc X724 N717 ge677
  have C725 : CHr Z EL1 s.vm h0 T183.vm h724 := C716.trans (CHr.wr W724 (Safe.arv hZ183.alike V715 (by decide)) C716.1)
  have sz724 : h715.size ≤ h724.size := Nat.le_of_eq W724.size.symm
  have nz724 := Nat.le_trans nz715 sz724
  have V724 : Arv Z h724 b667 k667 .char (8 : Int32) [(.int (nar .char cv_669)), (.int (nar .char cv_680)), (.int (nar .char cv_690)), (.int (nar .char cv_699)), (.int (nar .char cv_708)), (.int (nar .char cv_717)), (.int 0), (.int 0)] (.int 0) := Arv.set Ar723 q723 S723 M723 H723 G723 (fits_nar_char _) W724 5 rfl (Nat.le_of_ble_eq_true rfl)
  -- pc 276: KindNamedPinLaw.at by rm_at
  have f727 : Old Z n0 h724 := (f718.wr W724 ge677)
  have f728 : Exa Z h724 r_183 kS0 := (f719.wr W724)
  have f729 : Fld Z h724 r_183 kS0 "coder" "B" (.int 0) := (f720.other W724 (Or.inl (Ne.symm ne678)))
  have f730 : Fld Z h724 r_183 kS0 "value" "[B" (.ref t_183) := (f721.other W724 (Or.inl (Ne.symm ne678)))
  have f731 : Arv Z h724 t_183 k_183 .byte N_183 vs_183 (.int 0) := (f722.other W724 ne685)
  obtain ⟨_, _, ⟨T726, L726, k726, n726⟩, -, X726, ⟨Lc726, hQ726, l726, y726, z726⟩, st726⟩ := Jvm.LawKit.callS X724 hx (y := (⟨kS1, "at", kS3⟩ : MethodName)) hown183 (mvT hZ183 (wd hw 14 rfl)) (mvT hZ183 (wd hw 15 rfl)) (mvT hZ183 (wd hw 2 rfl)) (mvT hZ183 (wd hw 16 rfl)) (by decide) (backOf (W := 2) (rm_at l Z a0 hw [] (6 : Int32) uw pp xx p3 p4 p5 r_183 t_183 k_183 N_183 vs_183 cs_183 z0 f0 h724 n0 nz724 f727 f728 f729 f730 f731 (by first | assumption | decide | omega) (by first | assumption | decide | omega) (by first | assumption | decide | omega) (by first | assumption | decide | omega) r183_0 r183_1 r183_2 r183_3 (by decide) rxx qxx) hZ183 (wd hw 16 rfl) (wd hw 2 rfl) (by decide) (by decide)) (g := (mkF m 276 (la17 p0 p1 p2 p3 p4 p5 uw xl r_183 (8 : Int32) pp xx b667) [(.int p5), (.int p4), (.int p3), (.int xx), (.int pp), (.int uw), (.ref r_183), (.int 6), (.int 6), (.ref b667)])) rfl (by rw [hml]; rfl) (argsL := [(.int 6), (.ref r_183), (.int uw), (.int pp), (.int xx), (.int p3), (.int p4), (.int p5)]) (rest := [(.int 6), (.ref b667)]) (lenOf pd_9 rfl) rfl (wz rfl) (hb hby at_276) (fun _ _ => ⟨rfl, e724, (by decide : 3 + 0 ≤ _), (by decide : 48 + 0 ≤ _)⟩)
  dsimp only [Pt.U, Pt.locs, Pt.cells, Pt.slots] at X726 l726 y726 z726 st726 hQ726
  rw [l726, y726, z726] at X726
  obtain ⟨cv_726, rfl, N726q, e726, r726_0, r726_1⟩ := hQ726
  have N726 := Fr.app N724 N726q
  obtain ⟨cl732, Ar732, q732, S732, M732, H732, G732⟩ := id V724
  have hin732 : ¬ ((6 : Int32) < 0 ∨ cl732.slots.size ≤ ((6 : Int32)).toNatClampNeg) := inb_of S732 ⟨by decide, by decide⟩
  obtain ⟨T733, h733, X733, e733, W733, st733⟩ := stC X726 hx hZ183 e726 Ar732 (j := (6 : Int32)) hin732 (g := (mkF m 279 (la17 p0 p1 p2 p3 p4 p5 uw xl r_183 (8 : Int32) pp xx b667) [(.int cv_726), (.int 6), (.ref b667)])) rfl rfl (hb hby at_279)
  have N733 := Fr.snoc X733 N726 ge677
  have C734 : CHr Z EL1 s.vm h0 T183.vm h733 := C725.trans (CHr.wr W733 (Safe.arv hZ183.alike V724 (by decide)) C725.1)
  have sz733 : h724.size ≤ h733.size := Nat.le_of_eq W733.size.symm
  have nz733 := Nat.le_trans nz724 sz733
  have V733 : Arv Z h733 b667 k667 .char (8 : Int32) [(.int (nar .char cv_669)), (.int (nar .char cv_680)), (.int (nar .char cv_690)), (.int (nar .char cv_699)), (.int (nar .char cv_708)), (.int (nar .char cv_717)), (.int (nar .char cv_726)), (.int 0)] (.int 0) := Arv.set Ar732 q732 S732 M732 H732 G732 (fits_nar_char _) W733 6 rfl (Nat.le_of_ble_eq_true rfl)
  -- pc 306: KindNamedPinLaw.at by rm_at
  have f736 : Old Z n0 h733 := (f727.wr W733 ge677)
  have f737 : Exa Z h733 r_183 kS0 := (f728.wr W733)
  have f738 : Fld Z h733 r_183 kS0 "coder" "B" (.int 0) := (f729.other W733 (Or.inl (Ne.symm ne678)))
  have f739 : Fld Z h733 r_183 kS0 "value" "[B" (.ref t_183) := (f730.other W733 (Or.inl (Ne.symm ne678)))
  have f740 : Arv Z h733 t_183 k_183 .byte N_183 vs_183 (.int 0) := (f731.other W733 ne685)
  obtain ⟨_, _, ⟨T735, L735, k735, n735⟩, -, X735, ⟨Lc735, hQ735, l735, y735, z735⟩, st735⟩ := Jvm.LawKit.callS X733 hx (y := (⟨kS1, "at", kS3⟩ : MethodName)) hown183 (mvT hZ183 (wd hw 14 rfl)) (mvT hZ183 (wd hw 15 rfl)) (mvT hZ183 (wd hw 2 rfl)) (mvT hZ183 (wd hw 16 rfl)) (by decide) (backOf (W := 2) (rm_at l Z a0 hw [] (7 : Int32) uw pp xx p3 p4 p5 r_183 t_183 k_183 N_183 vs_183 cs_183 z0 f0 h733 n0 nz733 f736 f737 f738 f739 f740 (by first | assumption | decide | omega) (by first | assumption | decide | omega) (by first | assumption | decide | omega) (by first | assumption | decide | omega) r183_0 r183_1 r183_2 r183_3 (by decide) rxx qxx) hZ183 (wd hw 16 rfl) (wd hw 2 rfl) (by decide) (by decide)) (g := (mkF m 306 (la17 p0 p1 p2 p3 p4 p5 uw xl r_183 (8 : Int32) pp xx b667) [(.int p5), (.int p4), (.int p3), (.int xx), (.int pp), (.int uw), (.ref r_183), (.int 7), (.int 7), (.ref b667)])) rfl (by rw [hml]; rfl) (argsL := [(.int 7), (.ref r_183), (.int uw), (.int pp), (.int xx), (.int p3), (.int p4), (.int p5)]) (rest := [(.int 7), (.ref b667)]) (lenOf pd_9 rfl) rfl (wz rfl) (hb hby at_306) (fun _ _ => ⟨rfl, e733, (by decide : 3 + 0 ≤ _), (by decide : 48 + 0 ≤ _)⟩)
  dsimp only [Pt.U, Pt.locs, Pt.cells, Pt.slots] at X735 l735 y735 z735 st735 hQ735
  rw [l735, y735, z735] at X735
  obtain ⟨cv_735, rfl, N735q, e735, r735_0, r735_1⟩ := hQ735
  have N735 := Fr.app N733 N735q
  obtain ⟨cl741, Ar741, q741, S741, M741, H741, G741⟩ := id V733
  have hin741 : ¬ ((7 : Int32) < 0 ∨ cl741.slots.size ≤ ((7 : Int32)).toNatClampNeg) := inb_of S741 ⟨by decide, by decide⟩
  obtain ⟨T742, h742, X742, e742, W742, st742⟩ := stC X735 hx hZ183 e735 Ar741 (j := (7 : Int32)) hin741 (g := (mkF m 309 (la17 p0 p1 p2 p3 p4 p5 uw xl r_183 (8 : Int32) pp xx b667) [(.int cv_735), (.int 7), (.ref b667)])) rfl rfl (hb hby at_309)
  have N742 := Fr.snoc X742 N735 ge677
  have C743 : CHr Z EL1 s.vm h0 T183.vm h742 := C734.trans (CHr.wr W742 (Safe.arv hZ183.alike V733 (by decide)) C734.1)
  have sz742 : h733.size ≤ h742.size := Nat.le_of_eq W742.size.symm
  have nz742 := Nat.le_trans nz733 sz742
  have V742 : Arv Z h742 b667 k667 .char (8 : Int32) [(.int (nar .char cv_669)), (.int (nar .char cv_680)), (.int (nar .char cv_690)), (.int (nar .char cv_699)), (.int (nar .char cv_708)), (.int (nar .char cv_717)), (.int (nar .char cv_726)), (.int (nar .char cv_735))] (.int 0) := Arv.set Ar741 q741 S741 M741 H741 G741 (fits_nar_char _) W742 7 rfl (Nat.le_of_ble_eq_true rfl)
  have V744 : Arv Z h742 b667 k667 .char (8 : Int32) [(.int cv_669), (.int cv_680), (.int cv_690), (.int cv_699), (.int cv_708), (.int cv_717), (.int cv_726), (.int cv_735)] (.int 0) := by
   have q := V742
   rw [r669_1, r680_1, r690_1, r699_1, r708_1, r717_1, r726_1, r735_1] at q
   exact q
  obtain ⟨T745, h745, X745, e745, E745, A745, D745, U745, st745⟩ := newO X742 hx hZ183 hown183 (wd hw 20 rfl) (wd hw 6 rfl) (wd hw 5 rfl) e742 (g := (mkF m 370 (la17 p0 p1 p2 p3 p4 p5 uw xl r_183 (8 : Int32) pp xx b667) [])) rfl (hb hby at_370) (by decide) (by decide)
  obtain ⟨b745, g745⟩ : ∃ z, z = h742.size := ⟨_, rfl⟩
  rw [← g745] at A745 D745 U745 st745
  have C746 : CHr Z EL1 s.vm h0 T183.vm h745 := C743.trans (CHr.ext E745 C743.1)
  have sz745 : h742.size ≤ h745.size := E745.1
  have nz745 := Nat.le_trans nz742 sz745
  have lt745 := ltA A745.lt
  have B745 : Safe Z EL1 T183.vm h745 b745 := Safe.ext E745 C743.1 (Safe.new (by omega))
  have f747 : Fld Z h745 b745 kS0 "value" "[B" .null := D745 (Or.inr (wd hw 8 rfl)) (ty := (.array .byte)) (by decide)
  have f748 : Fld Z h745 b745 kS0 "coder" "B" (.int 0) := D745 (Or.inr (wd hw 9 rfl)) (ty := .byte) (by decide)
  have f749 : Arv Z h745 b667 k667 .char (8 : Int32) [(.int cv_669), (.int cv_680), (.int cv_690), (.int cv_699), (.int cv_708), (.int cv_717), (.int cv_726), (.int cv_735)] (.int 0) := (V744.ext E745)
  have f750 : Old Z n0 h745 := ((f736.wr W742 ge677).ext E745)
  have S751 : Sta Z h745 kS0 "COMPACT_STRINGS" "Z" (.int z0) := SZc.ext f750.2
  obtain ⟨v752, _, ⟨T752, L752, k752, n752⟩, -, X752, ⟨Lc752, hQ752, l752, y752, z752⟩, st752⟩ := X745.specialBack hx (y := (⟨kS0, "<init>", "([C)V"⟩ : MethodName)) rfl hown183 (mvT hZ183 (wd hw 21 rfl)) (mvT hZ183 (wd hw 22 rfl)) (mvT hZ183 (wd hw 23 rfl)) (by decide) (StrChars.Road.backV (W := 1) hZ183 (own_hws hw) (kI := 4) (wd hw 6 rfl) (cs := ([cv_669, cv_680, cv_690, cv_699, cv_708, cv_717, cv_726, cv_735] : List Int32)) (bs := ([cv_669, cv_680, cv_690, cv_699, cv_708, cv_717, cv_726, cv_735] : List Int32).map (fun c => c.toInt8.toInt32)) (n := 8) (n0 := n0) (by omega) (by omega) A745 f747 f748 f749 S751 hz0 rfl rfl (by decide) (by decide) (own_allS r669_0 (own_allS r680_0 (own_allS r690_0 (own_allS r699_0 (own_allS r708_0 (own_allS r717_0 (own_allS r726_0 (own_allS r735_0 own_all0)))))))) rfl (by decide) (by decide)) (g := (mkF m 376 (la17 p0 p1 p2 p3 p4 p5 uw xl r_183 (8 : Int32) pp xx b667) [(.ref b667), (.ref b745), (.ref b745)])) rfl (by rw [hml]; rfl) (Steps.refl _) (a := b745) (argsL := [(.ref b667)]) (rest := [(.ref b745)]) (lenOf pd_7 rfl) rfl (wz rfl) (hb hby at_376) (fun _ _ => ⟨rfl, e745, (by decide : 4 + 1 ≤ _), (by decide : 52 + 8 ≤ _)⟩)
  dsimp only [Pt.U, Pt.locs, Pt.cells, Pt.slots] at X752 l752 y752 z752 st752 hQ752
  rw [l752, y752, z752] at X752
  obtain ⟨h752, e752⟩ : ∃ z, T752.heap = z := ⟨_, rfl⟩
  rw [e752] at hQ752
  obtain ⟨rfl, N752q, K752, A752, Fc752, t752, kb752, u752, lo752, nt752, Fv752, V752⟩ := hQ752
  have N752 := Fr.app N742 N752q
  have f753 : Arv Z h745 t_183 k_183 .byte N_183 vs_183 (.int 0) := ((f740.other W742 ne685).ext E745)
  have ne754 : b745 ≠ t_183 := Exa.neArv A745 f753 (wd hw 6 rfl)
  have C755 : CHr Z EL1 s.vm h0 T183.vm h752 := C746.trans (CHr.keep K752 (sfS B745 sf0) C746.1)
  have sz752 : h745.size ≤ h752.size := K752.1
  have nz752 := Nat.le_trans nz745 sz752
  have lt752 := ltA V752.lt
  have hcd752 : StrChars.Road.CodA ([cv_669, cv_680, cv_690, cv_699, cv_708, cv_717, cv_726, cv_735] : List Int32) 0 (8 : Int32) ((([cv_669, cv_680, cv_690, cv_699, cv_708, cv_717, cv_726, cv_735] : List Int32).map (fun c => c.toInt8.toInt32)).map Value.int) := own_codn rfl (fun c hc => ((own_allS r669_0 (own_allS r680_0 (own_allS r690_0 (own_allS r699_0 (own_allS r708_0 (own_allS r717_0 (own_allS r726_0 (own_allS r735_0 own_all0)))))))) c hc).2)
  -- pc 383: Kind.named by rm_named
  have ge757 : n0 ≤ b745 := by omega
  have f758 : Old Z n0 h752 := (f750.keep K752 (allS ge757 all0))
  obtain ⟨_, _, ⟨T756, L756, k756, n756⟩, -, X756, ⟨Lc756, hQ756, l756, y756, z756⟩, st756⟩ := Jvm.LawKit.callS X752 hx (y := (⟨"com/example/rolegrant/rolegrant/policy/Kind", "named", kS2⟩ : MethodName)) hown183 (mvT hZ183 (wd hw 44 rfl)) (mvT hZ183 (wd hw 45 rfl)) (mvT hZ183 (wd hw 46 rfl)) (mvT hZ183 (wd hw 47 rfl)) (by decide) (backOf (W := 0) (rm_named l Z a0 hw [] b745 t752 kb752 (8 : Int32) ((([cv_669, cv_680, cv_690, cv_699, cv_708, cv_717, cv_726, cv_735] : List Int32).map (fun c => c.toInt8.toInt32)).map Value.int) ([cv_669, cv_680, cv_690, cv_699, cv_708, cv_717, cv_726, cv_735] : List Int32) z0 va u0 u1 u2 u3 w0 w1 w2 w3 y0 y1 y2 y3 kV b0 b1 b2 b3 h752 n0 nz752 f758 A752 Fc752 Fv752 V752 (by first | assumption | decide | omega) (by first | assumption | decide | omega) hcd752 (own_up (own_allS r669_0 (own_allS r680_0 (own_allS r690_0 (own_allS r699_0 (own_allS r708_0 (own_allS r717_0 (own_allS r726_0 (own_allS r735_0 own_all0))))))))) (Nat.le_of_ble_eq_true rfl) (by first | assumption | decide | omega)) hZ183 (wd hw 47 rfl) (wd hw 46 rfl) (by decide) (by decide)) (g := (mkF m 383 (la18 p0 p1 p2 p3 p4 p5 uw xl r_183 (8 : Int32) pp xx b667 b745) [(.ref b745)])) rfl (by rw [hml]; rfl) (argsL := [(.ref b745)]) (rest := []) (lenOf pd_8 rfl) rfl (wz rfl) (hb hby at_383) (fun _ _ => ⟨rfl, e752, (by decide : 5 + 1 ≤ _), (by decide : 60 + 4 ≤ _)⟩)
  dsimp only [Pt.U, Pt.locs, Pt.cells, Pt.slots] at X756 l756 y756 z756 st756 hQ756
  rw [l756, y756, z756] at X756
  obtain ⟨h756, e756⟩ : ∃ z, T756.heap = z := ⟨_, rfl⟩
  rw [e756] at hQ756
  obtain ⟨rfl, N756q, K756⟩ := hQ756
  have N756 := Fr.app N752 N756q
  have C759 : CHr Z EL1 s.vm h0 T183.vm h756 := C755.trans (CHr.keep K756 sf0 C755.1)
  have sz756 : h752.size ≤ h756.size := K756.1
  have nz756 := Nat.le_trans nz752 sz756
  -- pc 388: KindNamedPinLaw.expected by rm_exp
  have f761 : Old Z n0 h756 := (f758.keep K756 all0)
  have f762 : Exa Z h756 b745 kS0 := (A752.keep K756)
  have f763 : Fld Z h756 b745 kS0 "coder" "B" (.int 0) := (Fc752.keep K756 nin0)
  have f764 : Fld Z h756 b745 kS0 "value" "[B" (.ref t752) := (Fv752.keep K756 nin0)
  have f765 : Arv Z h756 t752 kb752 .byte (8 : Int32) ((([cv_669, cv_680, cv_690, cv_699, cv_708, cv_717, cv_726, cv_735] : List Int32).map (fun c => c.toInt8.toInt32)).map Value.int) (.int 0) := (V752.keep K756 nin0)
  obtain ⟨_, _, ⟨T760, L760, k760, n760⟩, -, X760w, hS760w, gr760, ⟨Lc760, hQ760, l760, y760, z760, C760w⟩, st760⟩ := callSS X756 hx (y := (⟨kS1, "expected", kS2⟩ : MethodName)) hown183 (mvT hZ183 (wd hw 79 rfl)) (mvT hZ183 (wd hw 80 rfl)) (mvT hZ183 (wd hw 2 rfl)) (mvT hZ183 (wd hw 81 rfl)) (by decide) (own_backS (W := 1) (rm_exp l Z a0 hw [] b745 t752 kb752 (8 : Int32) ((([cv_669, cv_680, cv_690, cv_699, cv_708, cv_717, cv_726, cv_735] : List Int32).map (fun c => c.toInt8.toInt32)).map Value.int) ([cv_669, cv_680, cv_690, cv_699, cv_708, cv_717, cv_726, cv_735] : List Int32) z0 va u0 u1 u2 u3 w0 w1 w2 w3 y0 y1 y2 y3 kV b0 b1 b2 b3 h756 n0 nz756 f761 f762 f763 f764 f765 (by first | assumption | decide | omega) (by first | assumption | decide | omega) hcd752 (own_up (own_allS r669_0 (own_allS r680_0 (own_allS r690_0 (own_allS r699_0 (own_allS r708_0 (own_allS r717_0 (own_allS r726_0 (own_allS r735_0 own_all0))))))))) (Nat.le_of_ble_eq_true rfl) (by first | assumption | decide | omega)) hZ183 (wd hw 81 rfl) (wd hw 2 rfl) (by decide) (by decide) (own_EW hw) C759.1 sf0 all0) (g := (mkF m 388 (la18 p0 p1 p2 p3 p4 p5 uw xl r_183 (8 : Int32) pp xx b667 b745) [(.ref b745), (own_pick ([cv_669, cv_680, cv_690, cv_699, cv_708, cv_717, cv_726, cv_735] : List Int32) u0 u1 u2 u3)])) rfl (by rw [hml]; rfl) (argsL := [(.ref b745)]) (rest := [(own_pick ([cv_669, cv_680, cv_690, cv_699, cv_708, cv_717, cv_726, cv_735] : List Int32) u0 u1 u2 u3)]) (lenOf pd_8 rfl) rfl (own_wx _ _ _ _ _) (hb hby at_388) (fun _ _ => ⟨rfl, e756, (by decide : 6 + 8 ≤ _), (by decide : 64 + 104 ≤ _)⟩)
  dsimp only [Pt.U, Pt.locs, Pt.cells, Pt.slots] at X760w hS760w gr760 l760 y760 z760 st760 hQ760 C760w
  rw [l760, y760, z760] at X760w
  obtain ⟨X760, hS760, hZ760, hown760⟩ := rebS hS183 (by rw [e756]; omega) X760w hS760w gr760 hZ183 hown183
  obtain ⟨h760, e760⟩ : ∃ z, T760.heap = z := ⟨_, rfl⟩
  rw [e760] at hQ760
  obtain ⟨rfl, N760q, K760⟩ := hQ760
  have N760 := Fr.app N756 N760q
  rw [e760] at C760w hS760
  have hk760 : h760.size ≤ h760.size := Nat.le_refl _
  have C766 : CHr Z EL1 s.vm h0 T760.vm h760 := C759.trans (C760w)
  have sz760 : h756.size ≤ h760.size := K760.1
  have nz760 := Nat.le_trans nz756 sz760
  obtain ⟨fs, hr, hrun, hended, hE⟩ := X760.leaveW hS760 (by rw [e760]; omega) (v := some (.int 1)) (fun h => by rw [Bd.returns] at h; cases h)
  have CE := C766.trans (CHv.at X760 hZ760 (own_EW hw) C766.1)
  refine ⟨_, _, pre196 _ ?_, hrun, hended, _, _, rfl, ?_, ?_, ⟨hE.1, hE.2.1, hE.2.2.1, hE.2.2.2.mono (by decide) (by decide)⟩⟩
  ·show GO p e below T186 (mkF m 83 (la16 p0 p1 p2 p3 p4 p5 uw xl r_183 (8 : Int32) pp xx) []) _
   refine XS.iload X186.here hx rfl (hb hby at_83) rfl ?_
   show GO p e below T186 (mkF m 85 (la16 p0 p1 p2 p3 p4 p5 uw xl r_183 (8 : Int32) pp xx) [(.int 8)]) _
   refine st667 _ ?_
   show GO p e below T667 (mkF m 87 (la16 p0 p1 p2 p3 p4 p5 uw xl r_183 (8 : Int32) pp xx) [(.ref b667)]) _
   refine XS.astore X667.here hx rfl (hb hby at_87) rfl rfl (l' := (la17 p0 p1 p2 p3 p4 p5 uw xl r_183 (8 : Int32) pp xx b667)) rfl ?_
   show GO p e below T667 (mkF m 89 (la17 p0 p1 p2 p3 p4 p5 uw xl r_183 (8 : Int32) pp xx b667) []) _
   refine XS.iload X667.here hx rfl (hb hby at_89) rfl ?_
   show GO p e below T667 (mkF m 91 (la17 p0 p1 p2 p3 p4 p5 uw xl r_183 (8 : Int32) pp xx b667) [(.int 8)]) _
   refine XS.ifNo X667.here hx rfl (hb hby at_91) rfl ((if0 _ _).trans (tlt ((by decide) : (0 : Int32) < (8 : Int32))).2.2.2) ?_
   show GO p e below T667 (mkF m 94 (la17 p0 p1 p2 p3 p4 p5 uw xl r_183 (8 : Int32) pp xx b667) []) _
   refine XS.aload X667.here hx rfl (hb hby at_94) rfl rfl ?_
   show GO p e below T667 (mkF m 96 (la17 p0 p1 p2 p3 p4 p5 uw xl r_183 (8 : Int32) pp xx b667) [(.ref b667)]) _
   refine XS.iconst X667.here hx rfl (hb hby at_96) ?_
   show GO p e below T667 (mkF m 97 (la17 p0 p1 p2 p3 p4 p5 uw xl r_183 (8 : Int32) pp xx b667) [(.int 0), (.ref b667)]) _
   refine XS.iconst X667.here hx rfl (hb hby at_97) ?_
   show GO p e below T667 (mkF m 98 (la17 p0 p1 p2 p3 p4 p5 uw xl r_183 (8 : Int32) pp xx b667) [(.int 0), (.int 0), (.ref b667)]) _
   refine XS.aload X667.here hx rfl (hb hby at_98) rfl rfl ?_
   show GO p e below T667 (mkF m 100 (la17 p0 p1 p2 p3 p4 p5 uw xl r_183 (8 : Int32) pp xx b667) [(.ref r_183), (.int 0), (.int 0), (.ref b667)]) _
   refine XS.iload X667.here hx rfl (hb hby at_100) rfl ?_
   show GO p e below T667 (mkF m 102 (la17 p0 p1 p2 p3 p4 p5 uw xl r_183 (8 : Int32) pp xx b667) [(.int uw), (.ref r_183), (.int 0), (.int 0), (.ref b667)]) _
   refine XS.iload X667.here hx rfl (hb hby at_102) rfl ?_
   show GO p e below T667 (mkF m 104 (la17 p0 p1 p2 p3 p4 p5 uw xl r_183 (8 : Int32) pp xx b667) [(.int pp), (.int uw), (.ref r_183), (.int 0), (.int 0), (.ref b667)]) _
   refine XS.iload X667.here hx rfl (hb hby at_104) rfl ?_
   show GO p e below T667 (mkF m 106 (la17 p0 p1 p2 p3 p4 p5 uw xl r_183 (8 : Int32) pp xx b667) [(.int xx), (.int pp), (.int uw), (.ref r_183), (.int 0), (.int 0), (.ref b667)]) _
   refine XS.iloadN X667.here hx rfl (hb hby at_106) rfl ?_
   show GO p e below T667 (mkF m 107 (la17 p0 p1 p2 p3 p4 p5 uw xl r_183 (8 : Int32) pp xx b667) [(.int p3), (.int xx), (.int pp), (.int uw), (.ref r_183), (.int 0), (.int 0), (.ref b667)]) _
   refine XS.iload X667.here hx rfl (hb hby at_107) rfl ?_
   show GO p e below T667 (mkF m 109 (la17 p0 p1 p2 p3 p4 p5 uw xl r_183 (8 : Int32) pp xx b667) [(.int p4), (.int p3), (.int xx), (.int pp), (.int uw), (.ref r_183), (.int 0), (.int 0), (.ref b667)]) _
   refine XS.iload X667.here hx rfl (hb hby at_109) rfl ?_
   show GO p e below T667 (mkF m 111 (la17 p0 p1 p2 p3 p4 p5 uw xl r_183 (8 : Int32) pp xx b667) [(.int p5), (.int p4), (.int p3), (.int xx), (.int pp), (.int uw), (.ref r_183), (.int 0), (.int 0), (.ref b667)]) _
   refine st669 _ ?_
   show GO p e below T669 (mkF m 114 (la17 p0 p1 p2 p3 p4 p5 uw xl r_183 (8 : Int32) pp xx b667) [(.int cv_669), (.int 0), (.ref b667)]) _
   refine st676 _ ?_
   show GO p e below T676 (mkF m 115 (la17 p0 p1 p2 p3 p4 p5 uw xl r_183 (8 : Int32) pp xx b667) []) _
   refine XS.iload X676.here hx rfl (hb hby at_115) rfl ?_
   show GO p e below T676 (mkF m 117 (la17 p0 p1 p2 p3 p4 p5 uw xl r_183 (8 : Int32) pp xx b667) [(.int 8)]) _
   refine XS.iconst X676.here hx rfl (hb hby at_117) ?_
   show GO p e below T676 (mkF m 118 (la17 p0 p1 p2 p3 p4 p5 uw xl r_183 (8 : Int32) pp xx b667) [(.int 1), (.int 8)]) _
   refine XS.icmpNo X676.here hx rfl (hb hby at_118) rfl (tlt ((by decide) : (1 : Int32) < (8 : Int32))).2.2.2 ?_
   show GO p e below T676 (mkF m 121 (la17 p0 p1 p2 p3 p4 p5 uw xl r_183 (8 : Int32) pp xx b667) []) _
   refine XS.aload X676.here hx rfl (hb hby at_121) rfl rfl ?_
   show GO p e below T676 (mkF m 123 (la17 p0 p1 p2 p3 p4 p5 uw xl r_183 (8 : Int32) pp xx b667) [(.ref b667)]) _
   refine XS.iconst X676.here hx rfl (hb hby at_123) ?_
   show GO p e below T676 (mkF m 124 (la17 p0 p1 p2 p3 p4 p5 uw xl r_183 (8 : Int32) pp xx b667) [(.int 1), (.ref b667)]) _
   refine XS.iconst X676.here hx rfl (hb hby at_124) ?_
   show GO p e below T676 (mkF m 125 (la17 p0 p1 p2 p3 p4 p5 uw xl r_183 (8 : Int32) pp xx b667) [(.int 1), (.int 1), (.ref b667)]) _
   refine XS.aload X676.here hx rfl (hb hby at_125) rfl rfl ?_
   show GO p e below T676 (mkF m 127 (la17 p0 p1 p2 p3 p4 p5 uw xl r_183 (8 : Int32) pp xx b667) [(.ref r_183), (.int 1), (.int 1), (.ref b667)]) _
   refine XS.iload X676.here hx rfl (hb hby at_127) rfl ?_
   show GO p e below T676 (mkF m 129 (la17 p0 p1 p2 p3 p4 p5 uw xl r_183 (8 : Int32) pp xx b667) [(.int uw), (.ref r_183), (.int 1), (.int 1), (.ref b667)]) _
   refine XS.iload X676.here hx rfl (hb hby at_129) rfl ?_
   show GO p e below T676 (mkF m 131 (la17 p0 p1 p2 p3 p4 p5 uw xl r_183 (8 : Int32) pp xx b667) [(.int pp), (.int uw), (.ref r_183), (.int 1), (.int 1), (.ref b667)]) _
   refine XS.iload X676.here hx rfl (hb hby at_131) rfl ?_
   show GO p e below T676 (mkF m 133 (la17 p0 p1 p2 p3 p4 p5 uw xl r_183 (8 : Int32) pp xx b667) [(.int xx), (.int pp), (.int uw), (.ref r_183), (.int 1), (.int 1), (.ref b667)]) _
   refine XS.iloadN X676.here hx rfl (hb hby at_133) rfl ?_
   show GO p e below T676 (mkF m 134 (la17 p0 p1 p2 p3 p4 p5 uw xl r_183 (8 : Int32) pp xx b667) [(.int p3), (.int xx), (.int pp), (.int uw), (.ref r_183), (.int 1), (.int 1), (.ref b667)]) _
   refine XS.iload X676.here hx rfl (hb hby at_134) rfl ?_
   show GO p e below T676 (mkF m 136 (la17 p0 p1 p2 p3 p4 p5 uw xl r_183 (8 : Int32) pp xx b667) [(.int p4), (.int p3), (.int xx), (.int pp), (.int uw), (.ref r_183), (.int 1), (.int 1), (.ref b667)]) _
   refine XS.iload X676.here hx rfl (hb hby at_136) rfl ?_
   show GO p e below T676 (mkF m 138 (la17 p0 p1 p2 p3 p4 p5 uw xl r_183 (8 : Int32) pp xx b667) [(.int p5), (.int p4), (.int p3), (.int xx), (.int pp), (.int uw), (.ref r_183), (.int 1), (.int 1), (.ref b667)]) _
   refine st680 _ ?_
   show GO p e below T680 (mkF m 141 (la17 p0 p1 p2 p3 p4 p5 uw xl r_183 (8 : Int32) pp xx b667) [(.int cv_680), (.int 1), (.ref b667)]) _
   refine st688 _ ?_
   show GO p e below T688 (mkF m 142 (la17 p0 p1 p2 p3 p4 p5 uw xl r_183 (8 : Int32) pp xx b667) []) _
   refine XS.iload X688.here hx rfl (hb hby at_142) rfl ?_
   show GO p e below T688 (mkF m 144 (la17 p0 p1 p2 p3 p4 p5 uw xl r_183 (8 : Int32) pp xx b667) [(.int 8)]) _
   refine XS.iconst X688.here hx rfl (hb hby at_144) ?_
   show GO p e below T688 (mkF m 145 (la17 p0 p1 p2 p3 p4 p5 uw xl r_183 (8 : Int32) pp xx b667) [(.int 2), (.int 8)]) _
   refine XS.icmpNo X688.here hx rfl (hb hby at_145) rfl (tlt ((by decide) : (2 : Int32) < (8 : Int32))).2.2.2 ?_
   show GO p e below T688 (mkF m 148 (la17 p0 p1 p2 p3 p4 p5 uw xl r_183 (8 : Int32) pp xx b667) []) _
   refine XS.aload X688.here hx rfl (hb hby at_148) rfl rfl ?_
   show GO p e below T688 (mkF m 150 (la17 p0 p1 p2 p3 p4 p5 uw xl r_183 (8 : Int32) pp xx b667) [(.ref b667)]) _
   refine XS.iconst X688.here hx rfl (hb hby at_150) ?_
   show GO p e below T688 (mkF m 151 (la17 p0 p1 p2 p3 p4 p5 uw xl r_183 (8 : Int32) pp xx b667) [(.int 2), (.ref b667)]) _
   refine XS.iconst X688.here hx rfl (hb hby at_151) ?_
   show GO p e below T688 (mkF m 152 (la17 p0 p1 p2 p3 p4 p5 uw xl r_183 (8 : Int32) pp xx b667) [(.int 2), (.int 2), (.ref b667)]) _
   refine XS.aload X688.here hx rfl (hb hby at_152) rfl rfl ?_
   show GO p e below T688 (mkF m 154 (la17 p0 p1 p2 p3 p4 p5 uw xl r_183 (8 : Int32) pp xx b667) [(.ref r_183), (.int 2), (.int 2), (.ref b667)]) _
   refine XS.iload X688.here hx rfl (hb hby at_154) rfl ?_
   show GO p e below T688 (mkF m 156 (la17 p0 p1 p2 p3 p4 p5 uw xl r_183 (8 : Int32) pp xx b667) [(.int uw), (.ref r_183), (.int 2), (.int 2), (.ref b667)]) _
   refine XS.iload X688.here hx rfl (hb hby at_156) rfl ?_
   show GO p e below T688 (mkF m 158 (la17 p0 p1 p2 p3 p4 p5 uw xl r_183 (8 : Int32) pp xx b667) [(.int pp), (.int uw), (.ref r_183), (.int 2), (.int 2), (.ref b667)]) _
   refine XS.iload X688.here hx rfl (hb hby at_158) rfl ?_
   show GO p e below T688 (mkF m 160 (la17 p0 p1 p2 p3 p4 p5 uw xl r_183 (8 : Int32) pp xx b667) [(.int xx), (.int pp), (.int uw), (.ref r_183), (.int 2), (.int 2), (.ref b667)]) _
   refine XS.iloadN X688.here hx rfl (hb hby at_160) rfl ?_
   show GO p e below T688 (mkF m 161 (la17 p0 p1 p2 p3 p4 p5 uw xl r_183 (8 : Int32) pp xx b667) [(.int p3), (.int xx), (.int pp), (.int uw), (.ref r_183), (.int 2), (.int 2), (.ref b667)]) _
   refine XS.iload X688.here hx rfl (hb hby at_161) rfl ?_
   show GO p e below T688 (mkF m 163 (la17 p0 p1 p2 p3 p4 p5 uw xl r_183 (8 : Int32) pp xx b667) [(.int p4), (.int p3), (.int xx), (.int pp), (.int uw), (.ref r_183), (.int 2), (.int 2), (.ref b667)]) _
   refine XS.iload X688.here hx rfl (hb hby at_163) rfl ?_
   show GO p e below T688 (mkF m 165 (la17 p0 p1 p2 p3 p4 p5 uw xl r_183 (8 : Int32) pp xx b667) [(.int p5), (.int p4), (.int p3), (.int xx), (.int pp), (.int uw), (.ref r_183), (.int 2), (.int 2), (.ref b667)]) _
   refine st690 _ ?_
   show GO p e below T690 (mkF m 168 (la17 p0 p1 p2 p3 p4 p5 uw xl r_183 (8 : Int32) pp xx b667) [(.int cv_690), (.int 2), (.ref b667)]) _
   refine st697 _ ?_
   show GO p e below T697 (mkF m 169 (la17 p0 p1 p2 p3 p4 p5 uw xl r_183 (8 : Int32) pp xx b667) []) _
   refine XS.iload X697.here hx rfl (hb hby at_169) rfl ?_
   show GO p e below T697 (mkF m 171 (la17 p0 p1 p2 p3 p4 p5 uw xl r_183 (8 : Int32) pp xx b667) [(.int 8)]) _
   refine XS.iconst X697.here hx rfl (hb hby at_171) ?_
   show GO p e below T697 (mkF m 172 (la17 p0 p1 p2 p3 p4 p5 uw xl r_183 (8 : Int32) pp xx b667) [(.int 3), (.int 8)]) _
   refine XS.icmpNo X697.here hx rfl (hb hby at_172) rfl (tlt ((by decide) : (3 : Int32) < (8 : Int32))).2.2.2 ?_
   show GO p e below T697 (mkF m 175 (la17 p0 p1 p2 p3 p4 p5 uw xl r_183 (8 : Int32) pp xx b667) []) _
   refine XS.aload X697.here hx rfl (hb hby at_175) rfl rfl ?_
   show GO p e below T697 (mkF m 177 (la17 p0 p1 p2 p3 p4 p5 uw xl r_183 (8 : Int32) pp xx b667) [(.ref b667)]) _
   refine XS.iconst X697.here hx rfl (hb hby at_177) ?_
   show GO p e below T697 (mkF m 178 (la17 p0 p1 p2 p3 p4 p5 uw xl r_183 (8 : Int32) pp xx b667) [(.int 3), (.ref b667)]) _
   refine XS.iconst X697.here hx rfl (hb hby at_178) ?_
   show GO p e below T697 (mkF m 179 (la17 p0 p1 p2 p3 p4 p5 uw xl r_183 (8 : Int32) pp xx b667) [(.int 3), (.int 3), (.ref b667)]) _
   refine XS.aload X697.here hx rfl (hb hby at_179) rfl rfl ?_
   show GO p e below T697 (mkF m 181 (la17 p0 p1 p2 p3 p4 p5 uw xl r_183 (8 : Int32) pp xx b667) [(.ref r_183), (.int 3), (.int 3), (.ref b667)]) _
   refine XS.iload X697.here hx rfl (hb hby at_181) rfl ?_
   show GO p e below T697 (mkF m 183 (la17 p0 p1 p2 p3 p4 p5 uw xl r_183 (8 : Int32) pp xx b667) [(.int uw), (.ref r_183), (.int 3), (.int 3), (.ref b667)]) _
   refine XS.iload X697.here hx rfl (hb hby at_183) rfl ?_
   show GO p e below T697 (mkF m 185 (la17 p0 p1 p2 p3 p4 p5 uw xl r_183 (8 : Int32) pp xx b667) [(.int pp), (.int uw), (.ref r_183), (.int 3), (.int 3), (.ref b667)]) _
   refine XS.iload X697.here hx rfl (hb hby at_185) rfl ?_
   show GO p e below T697 (mkF m 187 (la17 p0 p1 p2 p3 p4 p5 uw xl r_183 (8 : Int32) pp xx b667) [(.int xx), (.int pp), (.int uw), (.ref r_183), (.int 3), (.int 3), (.ref b667)]) _
   refine XS.iloadN X697.here hx rfl (hb hby at_187) rfl ?_
   show GO p e below T697 (mkF m 188 (la17 p0 p1 p2 p3 p4 p5 uw xl r_183 (8 : Int32) pp xx b667) [(.int p3), (.int xx), (.int pp), (.int uw), (.ref r_183), (.int 3), (.int 3), (.ref b667)]) _
   refine XS.iload X697.here hx rfl (hb hby at_188) rfl ?_
   show GO p e below T697 (mkF m 190 (la17 p0 p1 p2 p3 p4 p5 uw xl r_183 (8 : Int32) pp xx b667) [(.int p4), (.int p3), (.int xx), (.int pp), (.int uw), (.ref r_183), (.int 3), (.int 3), (.ref b667)]) _
   refine XS.iload X697.here hx rfl (hb hby at_190) rfl ?_
   show GO p e below T697 (mkF m 192 (la17 p0 p1 p2 p3 p4 p5 uw xl r_183 (8 : Int32) pp xx b667) [(.int p5), (.int p4), (.int p3), (.int xx), (.int pp), (.int uw), (.ref r_183), (.int 3), (.int 3), (.ref b667)]) _
   refine st699 _ ?_
   show GO p e below T699 (mkF m 195 (la17 p0 p1 p2 p3 p4 p5 uw xl r_183 (8 : Int32) pp xx b667) [(.int cv_699), (.int 3), (.ref b667)]) _
   refine st706 _ ?_
   show GO p e below T706 (mkF m 196 (la17 p0 p1 p2 p3 p4 p5 uw xl r_183 (8 : Int32) pp xx b667) []) _
   refine XS.iload X706.here hx rfl (hb hby at_196) rfl ?_
   show GO p e below T706 (mkF m 198 (la17 p0 p1 p2 p3 p4 p5 uw xl r_183 (8 : Int32) pp xx b667) [(.int 8)]) _
   refine XS.iconst X706.here hx rfl (hb hby at_198) ?_
   show GO p e below T706 (mkF m 199 (la17 p0 p1 p2 p3 p4 p5 uw xl r_183 (8 : Int32) pp xx b667) [(.int 4), (.int 8)]) _
   refine XS.icmpNo X706.here hx rfl (hb hby at_199) rfl (tlt ((by decide) : (4 : Int32) < (8 : Int32))).2.2.2 ?_
   show GO p e below T706 (mkF m 202 (la17 p0 p1 p2 p3 p4 p5 uw xl r_183 (8 : Int32) pp xx b667) []) _
   refine XS.aload X706.here hx rfl (hb hby at_202) rfl rfl ?_
   show GO p e below T706 (mkF m 204 (la17 p0 p1 p2 p3 p4 p5 uw xl r_183 (8 : Int32) pp xx b667) [(.ref b667)]) _
   refine XS.iconst X706.here hx rfl (hb hby at_204) ?_
   show GO p e below T706 (mkF m 205 (la17 p0 p1 p2 p3 p4 p5 uw xl r_183 (8 : Int32) pp xx b667) [(.int 4), (.ref b667)]) _
   refine XS.iconst X706.here hx rfl (hb hby at_205) ?_
   show GO p e below T706 (mkF m 206 (la17 p0 p1 p2 p3 p4 p5 uw xl r_183 (8 : Int32) pp xx b667) [(.int 4), (.int 4), (.ref b667)]) _
   refine XS.aload X706.here hx rfl (hb hby at_206) rfl rfl ?_
   show GO p e below T706 (mkF m 208 (la17 p0 p1 p2 p3 p4 p5 uw xl r_183 (8 : Int32) pp xx b667) [(.ref r_183), (.int 4), (.int 4), (.ref b667)]) _
   refine XS.iload X706.here hx rfl (hb hby at_208) rfl ?_
   show GO p e below T706 (mkF m 210 (la17 p0 p1 p2 p3 p4 p5 uw xl r_183 (8 : Int32) pp xx b667) [(.int uw), (.ref r_183), (.int 4), (.int 4), (.ref b667)]) _
   refine XS.iload X706.here hx rfl (hb hby at_210) rfl ?_
   show GO p e below T706 (mkF m 212 (la17 p0 p1 p2 p3 p4 p5 uw xl r_183 (8 : Int32) pp xx b667) [(.int pp), (.int uw), (.ref r_183), (.int 4), (.int 4), (.ref b667)]) _
   refine XS.iload X706.here hx rfl (hb hby at_212) rfl ?_
   show GO p e below T706 (mkF m 214 (la17 p0 p1 p2 p3 p4 p5 uw xl r_183 (8 : Int32) pp xx b667) [(.int xx), (.int pp), (.int uw), (.ref r_183), (.int 4), (.int 4), (.ref b667)]) _
   refine XS.iloadN X706.here hx rfl (hb hby at_214) rfl ?_
   show GO p e below T706 (mkF m 215 (la17 p0 p1 p2 p3 p4 p5 uw xl r_183 (8 : Int32) pp xx b667) [(.int p3), (.int xx), (.int pp), (.int uw), (.ref r_183), (.int 4), (.int 4), (.ref b667)]) _
   refine XS.iload X706.here hx rfl (hb hby at_215) rfl ?_
   show GO p e below T706 (mkF m 217 (la17 p0 p1 p2 p3 p4 p5 uw xl r_183 (8 : Int32) pp xx b667) [(.int p4), (.int p3), (.int xx), (.int pp), (.int uw), (.ref r_183), (.int 4), (.int 4), (.ref b667)]) _
   refine XS.iload X706.here hx rfl (hb hby at_217) rfl ?_
   show GO p e below T706 (mkF m 219 (la17 p0 p1 p2 p3 p4 p5 uw xl r_183 (8 : Int32) pp xx b667) [(.int p5), (.int p4), (.int p3), (.int xx), (.int pp), (.int uw), (.ref r_183), (.int 4), (.int 4), (.ref b667)]) _
   refine st708 _ ?_
   show GO p e below T708 (mkF m 222 (la17 p0 p1 p2 p3 p4 p5 uw xl r_183 (8 : Int32) pp xx b667) [(.int cv_708), (.int 4), (.ref b667)]) _
   refine st715 _ ?_
   show GO p e below T715 (mkF m 223 (la17 p0 p1 p2 p3 p4 p5 uw xl r_183 (8 : Int32) pp xx b667) []) _
   refine XS.iload X715.here hx rfl (hb hby at_223) rfl ?_
   show GO p e below T715 (mkF m 225 (la17 p0 p1 p2 p3 p4 p5 uw xl r_183 (8 : Int32) pp xx b667) [(.int 8)]) _
   refine XS.iconst X715.here hx rfl (hb hby at_225) ?_
   show GO p e below T715 (mkF m 226 (la17 p0 p1 p2 p3 p4 p5 uw xl r_183 (8 : Int32) pp xx b667) [(.int 5), (.int 8)]) _
   refine XS.icmpNo X715.here hx rfl (hb hby at_226) rfl (tlt ((by decide) : (5 : Int32) < (8 : Int32))).2.2.2 ?_
   show GO p e below T715 (mkF m 229 (la17 p0 p1 p2 p3 p4 p5 uw xl r_183 (8 : Int32) pp xx b667) []) _
   refine XS.aload X715.here hx rfl (hb hby at_229) rfl rfl ?_
   show GO p e below T715 (mkF m 231 (la17 p0 p1 p2 p3 p4 p5 uw xl r_183 (8 : Int32) pp xx b667) [(.ref b667)]) _
   refine XS.iconst X715.here hx rfl (hb hby at_231) ?_
   show GO p e below T715 (mkF m 232 (la17 p0 p1 p2 p3 p4 p5 uw xl r_183 (8 : Int32) pp xx b667) [(.int 5), (.ref b667)]) _
   refine XS.iconst X715.here hx rfl (hb hby at_232) ?_
   show GO p e below T715 (mkF m 233 (la17 p0 p1 p2 p3 p4 p5 uw xl r_183 (8 : Int32) pp xx b667) [(.int 5), (.int 5), (.ref b667)]) _
   refine XS.aload X715.here hx rfl (hb hby at_233) rfl rfl ?_
   show GO p e below T715 (mkF m 235 (la17 p0 p1 p2 p3 p4 p5 uw xl r_183 (8 : Int32) pp xx b667) [(.ref r_183), (.int 5), (.int 5), (.ref b667)]) _
   refine XS.iload X715.here hx rfl (hb hby at_235) rfl ?_
   show GO p e below T715 (mkF m 237 (la17 p0 p1 p2 p3 p4 p5 uw xl r_183 (8 : Int32) pp xx b667) [(.int uw), (.ref r_183), (.int 5), (.int 5), (.ref b667)]) _
   refine XS.iload X715.here hx rfl (hb hby at_237) rfl ?_
   show GO p e below T715 (mkF m 239 (la17 p0 p1 p2 p3 p4 p5 uw xl r_183 (8 : Int32) pp xx b667) [(.int pp), (.int uw), (.ref r_183), (.int 5), (.int 5), (.ref b667)]) _
   refine XS.iload X715.here hx rfl (hb hby at_239) rfl ?_
   show GO p e below T715 (mkF m 241 (la17 p0 p1 p2 p3 p4 p5 uw xl r_183 (8 : Int32) pp xx b667) [(.int xx), (.int pp), (.int uw), (.ref r_183), (.int 5), (.int 5), (.ref b667)]) _
   refine XS.iloadN X715.here hx rfl (hb hby at_241) rfl ?_
   show GO p e below T715 (mkF m 242 (la17 p0 p1 p2 p3 p4 p5 uw xl r_183 (8 : Int32) pp xx b667) [(.int p3), (.int xx), (.int pp), (.int uw), (.ref r_183), (.int 5), (.int 5), (.ref b667)]) _
   refine XS.iload X715.here hx rfl (hb hby at_242) rfl ?_
   show GO p e below T715 (mkF m 244 (la17 p0 p1 p2 p3 p4 p5 uw xl r_183 (8 : Int32) pp xx b667) [(.int p4), (.int p3), (.int xx), (.int pp), (.int uw), (.ref r_183), (.int 5), (.int 5), (.ref b667)]) _
   refine XS.iload X715.here hx rfl (hb hby at_244) rfl ?_
   show GO p e below T715 (mkF m 246 (la17 p0 p1 p2 p3 p4 p5 uw xl r_183 (8 : Int32) pp xx b667) [(.int p5), (.int p4), (.int p3), (.int xx), (.int pp), (.int uw), (.ref r_183), (.int 5), (.int 5), (.ref b667)]) _
   refine st717 _ ?_
   show GO p e below T717 (mkF m 249 (la17 p0 p1 p2 p3 p4 p5 uw xl r_183 (8 : Int32) pp xx b667) [(.int cv_717), (.int 5), (.ref b667)]) _
   refine st724 _ ?_
   show GO p e below T724 (mkF m 250 (la17 p0 p1 p2 p3 p4 p5 uw xl r_183 (8 : Int32) pp xx b667) []) _
   refine XS.iload X724.here hx rfl (hb hby at_250) rfl ?_
   show GO p e below T724 (mkF m 252 (la17 p0 p1 p2 p3 p4 p5 uw xl r_183 (8 : Int32) pp xx b667) [(.int 8)]) _
   refine XS.bipush X724.here hx rfl (hb hby at_252) ?_
   show GO p e below T724 (mkF m 254 (la17 p0 p1 p2 p3 p4 p5 uw xl r_183 (8 : Int32) pp xx b667) [(.int 6), (.int 8)]) _
   refine XS.icmpNo X724.here hx rfl (hb hby at_254) rfl (tlt ((by decide) : (6 : Int32) < (8 : Int32))).2.2.2 ?_
   show GO p e below T724 (mkF m 257 (la17 p0 p1 p2 p3 p4 p5 uw xl r_183 (8 : Int32) pp xx b667) []) _
   refine XS.aload X724.here hx rfl (hb hby at_257) rfl rfl ?_
   show GO p e below T724 (mkF m 259 (la17 p0 p1 p2 p3 p4 p5 uw xl r_183 (8 : Int32) pp xx b667) [(.ref b667)]) _
   refine XS.bipush X724.here hx rfl (hb hby at_259) ?_
   show GO p e below T724 (mkF m 261 (la17 p0 p1 p2 p3 p4 p5 uw xl r_183 (8 : Int32) pp xx b667) [(.int 6), (.ref b667)]) _
   refine XS.bipush X724.here hx rfl (hb hby at_261) ?_
   show GO p e below T724 (mkF m 263 (la17 p0 p1 p2 p3 p4 p5 uw xl r_183 (8 : Int32) pp xx b667) [(.int 6), (.int 6), (.ref b667)]) _
   refine XS.aload X724.here hx rfl (hb hby at_263) rfl rfl ?_
   show GO p e below T724 (mkF m 265 (la17 p0 p1 p2 p3 p4 p5 uw xl r_183 (8 : Int32) pp xx b667) [(.ref r_183), (.int 6), (.int 6), (.ref b667)]) _
   refine XS.iload X724.here hx rfl (hb hby at_265) rfl ?_
   show GO p e below T724 (mkF m 267 (la17 p0 p1 p2 p3 p4 p5 uw xl r_183 (8 : Int32) pp xx b667) [(.int uw), (.ref r_183), (.int 6), (.int 6), (.ref b667)]) _
   refine XS.iload X724.here hx rfl (hb hby at_267) rfl ?_
   show GO p e below T724 (mkF m 269 (la17 p0 p1 p2 p3 p4 p5 uw xl r_183 (8 : Int32) pp xx b667) [(.int pp), (.int uw), (.ref r_183), (.int 6), (.int 6), (.ref b667)]) _
   refine XS.iload X724.here hx rfl (hb hby at_269) rfl ?_
   show GO p e below T724 (mkF m 271 (la17 p0 p1 p2 p3 p4 p5 uw xl r_183 (8 : Int32) pp xx b667) [(.int xx), (.int pp), (.int uw), (.ref r_183), (.int 6), (.int 6), (.ref b667)]) _
   refine XS.iloadN X724.here hx rfl (hb hby at_271) rfl ?_
   show GO p e below T724 (mkF m 272 (la17 p0 p1 p2 p3 p4 p5 uw xl r_183 (8 : Int32) pp xx b667) [(.int p3), (.int xx), (.int pp), (.int uw), (.ref r_183), (.int 6), (.int 6), (.ref b667)]) _
   refine XS.iload X724.here hx rfl (hb hby at_272) rfl ?_
   show GO p e below T724 (mkF m 274 (la17 p0 p1 p2 p3 p4 p5 uw xl r_183 (8 : Int32) pp xx b667) [(.int p4), (.int p3), (.int xx), (.int pp), (.int uw), (.ref r_183), (.int 6), (.int 6), (.ref b667)]) _
   refine XS.iload X724.here hx rfl (hb hby at_274) rfl ?_
   show GO p e below T724 (mkF m 276 (la17 p0 p1 p2 p3 p4 p5 uw xl r_183 (8 : Int32) pp xx b667) [(.int p5), (.int p4), (.int p3), (.int xx), (.int pp), (.int uw), (.ref r_183), (.int 6), (.int 6), (.ref b667)]) _
   refine st726 _ ?_
   show GO p e below T726 (mkF m 279 (la17 p0 p1 p2 p3 p4 p5 uw xl r_183 (8 : Int32) pp xx b667) [(.int cv_726), (.int 6), (.ref b667)]) _
   refine st733 _ ?_
   show GO p e below T733 (mkF m 280 (la17 p0 p1 p2 p3 p4 p5 uw xl r_183 (8 : Int32) pp xx b667) []) _
   refine XS.iload X733.here hx rfl (hb hby at_280) rfl ?_
   show GO p e below T733 (mkF m 282 (la17 p0 p1 p2 p3 p4 p5 uw xl r_183 (8 : Int32) pp xx b667) [(.int 8)]) _
   refine XS.bipush X733.here hx rfl (hb hby at_282) ?_
   show GO p e below T733 (mkF m 284 (la17 p0 p1 p2 p3 p4 p5 uw xl r_183 (8 : Int32) pp xx b667) [(.int 7), (.int 8)]) _
   refine XS.icmpNo X733.here hx rfl (hb hby at_284) rfl (tlt ((by decide) : (7 : Int32) < (8 : Int32))).2.2.2 ?_
   show GO p e below T733 (mkF m 287 (la17 p0 p1 p2 p3 p4 p5 uw xl r_183 (8 : Int32) pp xx b667) []) _
   refine XS.aload X733.here hx rfl (hb hby at_287) rfl rfl ?_
   show GO p e below T733 (mkF m 289 (la17 p0 p1 p2 p3 p4 p5 uw xl r_183 (8 : Int32) pp xx b667) [(.ref b667)]) _
   refine XS.bipush X733.here hx rfl (hb hby at_289) ?_
   show GO p e below T733 (mkF m 291 (la17 p0 p1 p2 p3 p4 p5 uw xl r_183 (8 : Int32) pp xx b667) [(.int 7), (.ref b667)]) _
   refine XS.bipush X733.here hx rfl (hb hby at_291) ?_
   show GO p e below T733 (mkF m 293 (la17 p0 p1 p2 p3 p4 p5 uw xl r_183 (8 : Int32) pp xx b667) [(.int 7), (.int 7), (.ref b667)]) _
   refine XS.aload X733.here hx rfl (hb hby at_293) rfl rfl ?_
   show GO p e below T733 (mkF m 295 (la17 p0 p1 p2 p3 p4 p5 uw xl r_183 (8 : Int32) pp xx b667) [(.ref r_183), (.int 7), (.int 7), (.ref b667)]) _
   refine XS.iload X733.here hx rfl (hb hby at_295) rfl ?_
   show GO p e below T733 (mkF m 297 (la17 p0 p1 p2 p3 p4 p5 uw xl r_183 (8 : Int32) pp xx b667) [(.int uw), (.ref r_183), (.int 7), (.int 7), (.ref b667)]) _
   refine XS.iload X733.here hx rfl (hb hby at_297) rfl ?_
   show GO p e below T733 (mkF m 299 (la17 p0 p1 p2 p3 p4 p5 uw xl r_183 (8 : Int32) pp xx b667) [(.int pp), (.int uw), (.ref r_183), (.int 7), (.int 7), (.ref b667)]) _
   refine XS.iload X733.here hx rfl (hb hby at_299) rfl ?_
   show GO p e below T733 (mkF m 301 (la17 p0 p1 p2 p3 p4 p5 uw xl r_183 (8 : Int32) pp xx b667) [(.int xx), (.int pp), (.int uw), (.ref r_183), (.int 7), (.int 7), (.ref b667)]) _
   refine XS.iloadN X733.here hx rfl (hb hby at_301) rfl ?_
   show GO p e below T733 (mkF m 302 (la17 p0 p1 p2 p3 p4 p5 uw xl r_183 (8 : Int32) pp xx b667) [(.int p3), (.int xx), (.int pp), (.int uw), (.ref r_183), (.int 7), (.int 7), (.ref b667)]) _
   refine XS.iload X733.here hx rfl (hb hby at_302) rfl ?_
   show GO p e below T733 (mkF m 304 (la17 p0 p1 p2 p3 p4 p5 uw xl r_183 (8 : Int32) pp xx b667) [(.int p4), (.int p3), (.int xx), (.int pp), (.int uw), (.ref r_183), (.int 7), (.int 7), (.ref b667)]) _
   refine XS.iload X733.here hx rfl (hb hby at_304) rfl ?_
   show GO p e below T733 (mkF m 306 (la17 p0 p1 p2 p3 p4 p5 uw xl r_183 (8 : Int32) pp xx b667) [(.int p5), (.int p4), (.int p3), (.int xx), (.int pp), (.int uw), (.ref r_183), (.int 7), (.int 7), (.ref b667)]) _
   refine st735 _ ?_
   show GO p e below T735 (mkF m 309 (la17 p0 p1 p2 p3 p4 p5 uw xl r_183 (8 : Int32) pp xx b667) [(.int cv_735), (.int 7), (.ref b667)]) _
   refine st742 _ ?_
   show GO p e below T742 (mkF m 310 (la17 p0 p1 p2 p3 p4 p5 uw xl r_183 (8 : Int32) pp xx b667) []) _
   refine XS.iload X742.here hx rfl (hb hby at_310) rfl ?_
   show GO p e below T742 (mkF m 312 (la17 p0 p1 p2 p3 p4 p5 uw xl r_183 (8 : Int32) pp xx b667) [(.int 8)]) _
   refine XS.bipush X742.here hx rfl (hb hby at_312) ?_
   show GO p e below T742 (mkF m 314 (la17 p0 p1 p2 p3 p4 p5 uw xl r_183 (8 : Int32) pp xx b667) [(.int 8), (.int 8)]) _
   refine XS.icmpYes X742.here hx rfl (pc0 := 314) (pc' := 340) rfl (hb hby at_314) rfl (flt ((by decide) : ¬ ((8 : Int32) < (8 : Int32)))).2.2.2 (by decide) (by decide) ?_
   show GO p e below T742 (mkF m 340 (la17 p0 p1 p2 p3 p4 p5 uw xl r_183 (8 : Int32) pp xx b667) []) _
   refine XS.iload X742.here hx rfl (hb hby at_340) rfl ?_
   show GO p e below T742 (mkF m 342 (la17 p0 p1 p2 p3 p4 p5 uw xl r_183 (8 : Int32) pp xx b667) [(.int 8)]) _
   refine XS.bipush X742.here hx rfl (hb hby at_342) ?_
   show GO p e below T742 (mkF m 344 (la17 p0 p1 p2 p3 p4 p5 uw xl r_183 (8 : Int32) pp xx b667) [(.int 9), (.int 8)]) _
   refine XS.icmpYes X742.here hx rfl (pc0 := 344) (pc' := 370) rfl (hb hby at_344) rfl (flt ((by decide) : ¬ ((9 : Int32) < (8 : Int32)))).2.2.2 (by decide) (by decide) ?_
   show GO p e below T742 (mkF m 370 (la17 p0 p1 p2 p3 p4 p5 uw xl r_183 (8 : Int32) pp xx b667) []) _
   refine st745 _ ?_
   show GO p e below T745 (mkF m 373 (la17 p0 p1 p2 p3 p4 p5 uw xl r_183 (8 : Int32) pp xx b667) [(.ref b745)]) _
   refine XS.dup X745.here hx rfl (hb hby at_373) rfl rfl ?_
   show GO p e below T745 (mkF m 374 (la17 p0 p1 p2 p3 p4 p5 uw xl r_183 (8 : Int32) pp xx b667) [(.ref b745), (.ref b745)]) _
   refine XS.aload X745.here hx rfl (hb hby at_374) rfl rfl ?_
   show GO p e below T745 (mkF m 376 (la17 p0 p1 p2 p3 p4 p5 uw xl r_183 (8 : Int32) pp xx b667) [(.ref b667), (.ref b745), (.ref b745)]) _
   refine st752.trans ?_
   show GO p e below T752 (mkF m 379 (la17 p0 p1 p2 p3 p4 p5 uw xl r_183 (8 : Int32) pp xx b667) [(.ref b745)]) _
   refine XS.astore X752.here hx rfl (hb hby at_379) rfl rfl (l' := (la18 p0 p1 p2 p3 p4 p5 uw xl r_183 (8 : Int32) pp xx b667 b745)) rfl ?_
   show GO p e below T752 (mkF m 381 (la18 p0 p1 p2 p3 p4 p5 uw xl r_183 (8 : Int32) pp xx b667 b745) []) _
   refine XS.aload X752.here hx rfl (hb hby at_381) rfl rfl ?_
   show GO p e below T752 (mkF m 383 (la18 p0 p1 p2 p3 p4 p5 uw xl r_183 (8 : Int32) pp xx b667 b745) [(.ref b745)]) _
   refine st756 _ ?_
   show GO p e below T756 (mkF m 386 (la18 p0 p1 p2 p3 p4 p5 uw xl r_183 (8 : Int32) pp xx b667 b745) [(own_pick ([cv_669, cv_680, cv_690, cv_699, cv_708, cv_717, cv_726, cv_735] : List Int32) u0 u1 u2 u3)]) _
   refine XS.aload X756.here hx rfl (hb hby at_386) rfl rfl ?_
   show GO p e below T756 (mkF m 388 (la18 p0 p1 p2 p3 p4 p5 uw xl r_183 (8 : Int32) pp xx b667 b745) [(.ref b745), (own_pick ([cv_669, cv_680, cv_690, cv_699, cv_708, cv_717, cv_726, cv_735] : List Int32) u0 u1 u2 u3)]) _
   refine st760.trans ?_
   show GO p e below T760 (mkF m 391 (la18 p0 p1 p2 p3 p4 p5 uw xl r_183 (8 : Int32) pp xx b667 b745) [(own_pick ([cv_669, cv_680, cv_690, cv_699, cv_708, cv_717, cv_726, cv_735] : List Int32) u0 u1 u2 u3), (own_pick ([cv_669, cv_680, cv_690, cv_699, cv_708, cv_717, cv_726, cv_735] : List Int32) u0 u1 u2 u3)]) _
   refine Jvm.RoadKit.acmp (g := (mkF m 391 (la18 p0 p1 p2 p3 p4 p5 uw xl r_183 (8 : Int32) pp xx b667 b745) [(own_pick ([cv_669, cv_680, cv_690, cv_699, cv_708, cv_717, cv_726, cv_735] : List Int32) u0 u1 u2 u3), (own_pick ([cv_669, cv_680, cv_690, cv_699, cv_708, cv_717, cv_726, cv_735] : List Int32) u0 u1 u2 u3)])) X760 hx rfl (own_pickref _ _ _ _ _) (own_pickref _ _ _ _ _) (pc0 := 391) (pc' := 394) (same := true) rfl (hb hby at_391) rfl (decide_eq_true rfl) (by decide) (by decide) ?_
   show GO p e below T760 (mkF m 394 (la18 p0 p1 p2 p3 p4 p5 uw xl r_183 (8 : Int32) pp xx b667 b745) []) _
   refine XS.iconst X760.here hx rfl (hb hby at_394) ?_
   show GO p e below T760 (mkF m 395 (la18 p0 p1 p2 p3 p4 p5 uw xl r_183 (8 : Int32) pp xx b667 b745) [(.int 1)]) _
   refine XS.goto X760.here hx rfl (pc0 := 395) (pc' := 399) rfl (hb hby at_395) (by decide) (by decide) ?_
   show GO p e below T760 (mkF m 399 (la18 p0 p1 p2 p3 p4 p5 uw xl r_183 (8 : Int32) pp xx b667 b745) [(.int 1)]) _
   exact retN X760 hx (t := .boolean) Bd.returns (by simp) (hb hby at_399) hr
  ·show Qrm0 Z p0 p1 p2 p3 p4 p5 z0 f0 va u0 u1 u2 u3 w0 w1 w2 w3 y0 y1 y2 y3 kV b0 b1 b2 b3 h0 n0 _ T760.heap _
   rw [e760]
   exact ⟨rfl, N760⟩
  ·show CHr Z EL1 s.vm s.heap T760.vm T760.heap
   rw [hh, e760]
   exact CE
 ·obtain ⟨T767, h767, k767, X767, e767, E767, A767, st767⟩ := newP X186 hx hZ183 (wd hw 13 rfl) e186 (g := (mkF m 85 (la16 p0 p1 p2 p3 p4 p5 uw xl r_183 (9 : Int32) pp xx) [(.int 9)])) rfl (hb hby at_85) rfl (by decide) (cap := 9) (by decide) (by decide) (by decide) (by decide)
  obtain ⟨b767, g767⟩ : ∃ z, z = h183.size := ⟨_, rfl⟩
  rw [← g767] at A767 st767
  have C768 : CHr Z EL1 s.vm h0 T183.vm h767 := C184.trans (CHr.ext E767 C184.1)
  have sz767 : h183.size ≤ h767.size := E767.1
  have nz767 := Nat.le_trans nz183 sz767
  have lt767 := ltA A767.lt
  have V767 : Arv Z h767 b767 k767 .char (9 : Int32) [(.int 0), (.int 0), (.int 0), (.int 0), (.int 0), (.int 0), (.int 0), (.int 0), (.int 0)] (.int 0) := (Arv.new A767 (by decide)).pad (pad_rep [] (.int 0) 9)
  -- pc 111: KindNamedPinLaw.at by rm_at
  have f770 : Old Z n0 h767 := ((O0.keep K183 all0).ext E767)
  have f771 : Exa Z h767 r_183 kS0 := (p183_0.ext E767)
  have f772 : Fld Z h767 r_183 kS0 "coder" "B" (.int 0) := (p183_1.ext E767)
  have f773 : Fld Z h767 r_183 kS0 "value" "[B" (.ref t_183) := (p183_2.ext E767)
  have f774 : Arv Z h767 t_183 k_183 .byte N_183 vs_183 (.int 0) := (p183_3.ext E767)
  obtain ⟨_, _, ⟨T769, L769, k769, n769⟩, -, X769, ⟨Lc769, hQ769, l769, y769, z769⟩, st769⟩ := Jvm.LawKit.callS X767 hx (y := (⟨kS1, "at", kS3⟩ : MethodName)) hown183 (mvT hZ183 (wd hw 14 rfl)) (mvT hZ183 (wd hw 15 rfl)) (mvT hZ183 (wd hw 2 rfl)) (mvT hZ183 (wd hw 16 rfl)) (by decide) (backOf (W := 2) (rm_at l Z a0 hw [] (0 : Int32) uw pp xx p3 p4 p5 r_183 t_183 k_183 N_183 vs_183 cs_183 z0 f0 h767 n0 nz767 f770 f771 f772 f773 f774 (by first | assumption | decide | omega) (by first | assumption | decide | omega) (by first | assumption | decide | omega) (by first | assumption | decide | omega) r183_0 r183_1 r183_2 r183_3 (by decide) rxx qxx) hZ183 (wd hw 16 rfl) (wd hw 2 rfl) (by decide) (by decide)) (g := (mkF m 111 (la17 p0 p1 p2 p3 p4 p5 uw xl r_183 (9 : Int32) pp xx b767) [(.int p5), (.int p4), (.int p3), (.int xx), (.int pp), (.int uw), (.ref r_183), (.int 0), (.int 0), (.ref b767)])) rfl (by rw [hml]; rfl) (argsL := [(.int 0), (.ref r_183), (.int uw), (.int pp), (.int xx), (.int p3), (.int p4), (.int p5)]) (rest := [(.int 0), (.ref b767)]) (lenOf pd_9 rfl) rfl (wz rfl) (hb hby at_111) (fun _ _ => ⟨rfl, e767, (by decide : 3 + 0 ≤ _), (by decide : 49 + 0 ≤ _)⟩)
  dsimp only [Pt.U, Pt.locs, Pt.cells, Pt.slots] at X769 l769 y769 z769 st769 hQ769
  rw [l769, y769, z769] at X769
  obtain ⟨cv_769, rfl, N769q, e769, r769_0, r769_1⟩ := hQ769
  have N769 := Fr.app N186 N769q
  obtain ⟨cl775, Ar775, q775, S775, M775, H775, G775⟩ := id V767
  have hin775 : ¬ ((0 : Int32) < 0 ∨ cl775.slots.size ≤ ((0 : Int32)).toNatClampNeg) := inb_of S775 ⟨by decide, by decide⟩
  obtain ⟨T776, h776, X776, e776, W776, st776⟩ := stC X769 hx hZ183 e769 Ar775 (j := (0 : Int32)) hin775 (g := (mkF m 114 (la17 p0 p1 p2 p3 p4 p5 uw xl r_183 (9 : Int32) pp xx b767) [(.int cv_769), (.int 0), (.ref b767)])) rfl rfl (hb hby at_114)
  have ge777 : n0 ≤ b767 := by omega
  have N776 := Fr.snoc X776 N769 ge777
  have ne778 : b767 ≠ r_183 := Ne.symm (Exa.neArv f771 V767 (wd hw 6 rfl))
  have C779 : CHr Z EL1 s.vm h0 T183.vm h776 := C768.trans (CHr.wr W776 (Safe.arv hZ183.alike V767 (by decide)) C768.1)
  have sz776 : h767.size ≤ h776.size := Nat.le_of_eq W776.size.symm
  have nz776 := Nat.le_trans nz767 sz776
  have V776 : Arv Z h776 b767 k767 .char (9 : Int32) [(.int (nar .char cv_769)), (.int 0), (.int 0), (.int 0), (.int 0), (.int 0), (.int 0), (.int 0), (.int 0)] (.int 0) := Arv.set Ar775 q775 S775 M775 H775 G775 (fits_nar_char _) W776 0 rfl (Nat.le_of_ble_eq_true rfl)
  -- pc 138: KindNamedPinLaw.at by rm_at
  have f781 : Old Z n0 h776 := (f770.wr W776 ge777)
  have f782 : Exa Z h776 r_183 kS0 := (f771.wr W776)
  have f783 : Fld Z h776 r_183 kS0 "coder" "B" (.int 0) := (f772.other W776 (Or.inl (Ne.symm ne778)))
  have f784 : Fld Z h776 r_183 kS0 "value" "[B" (.ref t_183) := (f773.other W776 (Or.inl (Ne.symm ne778)))
  have ne785 : t_183 ≠ b767 := neN (by omega)
  have f786 : Arv Z h776 t_183 k_183 .byte N_183 vs_183 (.int 0) := (f774.other W776 ne785)
  obtain ⟨_, _, ⟨T780, L780, k780, n780⟩, -, X780, ⟨Lc780, hQ780, l780, y780, z780⟩, st780⟩ := Jvm.LawKit.callS X776 hx (y := (⟨kS1, "at", kS3⟩ : MethodName)) hown183 (mvT hZ183 (wd hw 14 rfl)) (mvT hZ183 (wd hw 15 rfl)) (mvT hZ183 (wd hw 2 rfl)) (mvT hZ183 (wd hw 16 rfl)) (by decide) (backOf (W := 2) (rm_at l Z a0 hw [] (1 : Int32) uw pp xx p3 p4 p5 r_183 t_183 k_183 N_183 vs_183 cs_183 z0 f0 h776 n0 nz776 f781 f782 f783 f784 f786 (by first | assumption | decide | omega) (by first | assumption | decide | omega) (by first | assumption | decide | omega) (by first | assumption | decide | omega) r183_0 r183_1 r183_2 r183_3 (by decide) rxx qxx) hZ183 (wd hw 16 rfl) (wd hw 2 rfl) (by decide) (by decide)) (g := (mkF m 138 (la17 p0 p1 p2 p3 p4 p5 uw xl r_183 (9 : Int32) pp xx b767) [(.int p5), (.int p4), (.int p3), (.int xx), (.int pp), (.int uw), (.ref r_183), (.int 1), (.int 1), (.ref b767)])) rfl (by rw [hml]; rfl) (argsL := [(.int 1), (.ref r_183), (.int uw), (.int pp), (.int xx), (.int p3), (.int p4), (.int p5)]) (rest := [(.int 1), (.ref b767)]) (lenOf pd_9 rfl) rfl (wz rfl) (hb hby at_138) (fun _ _ => ⟨rfl, e776, (by decide : 3 + 0 ≤ _), (by decide : 49 + 0 ≤ _)⟩)
  dsimp only [Pt.U, Pt.locs, Pt.cells, Pt.slots] at X780 l780 y780 z780 st780 hQ780
  rw [l780, y780, z780] at X780
  obtain ⟨cv_780, rfl, N780q, e780, r780_0, r780_1⟩ := hQ780
  have N780 := Fr.app N776 N780q
  obtain ⟨cl787, Ar787, q787, S787, M787, H787, G787⟩ := id V776
  have hin787 : ¬ ((1 : Int32) < 0 ∨ cl787.slots.size ≤ ((1 : Int32)).toNatClampNeg) := inb_of S787 ⟨by decide, by decide⟩
  obtain ⟨T788, h788, X788, e788, W788, st788⟩ := stC X780 hx hZ183 e780 Ar787 (j := (1 : Int32)) hin787 (g := (mkF m 141 (la17 p0 p1 p2 p3 p4 p5 uw xl r_183 (9 : Int32) pp xx b767) [(.int cv_780), (.int 1), (.ref b767)])) rfl rfl (hb hby at_141)
  have N788 := Fr.snoc X788 N780 ge777
  have C789 : CHr Z EL1 s.vm h0 T183.vm h788 := C779.trans (CHr.wr W788 (Safe.arv hZ183.alike V776 (by decide)) C779.1)
  have sz788 : h776.size ≤ h788.size := Nat.le_of_eq W788.size.symm
  have nz788 := Nat.le_trans nz776 sz788
  have V788 : Arv Z h788 b767 k767 .char (9 : Int32) [(.int (nar .char cv_769)), (.int (nar .char cv_780)), (.int 0), (.int 0), (.int 0), (.int 0), (.int 0), (.int 0), (.int 0)] (.int 0) := Arv.set Ar787 q787 S787 M787 H787 G787 (fits_nar_char _) W788 1 rfl (Nat.le_of_ble_eq_true rfl)
  -- pc 165: KindNamedPinLaw.at by rm_at
  have f791 : Old Z n0 h788 := (f781.wr W788 ge777)
  have f792 : Exa Z h788 r_183 kS0 := (f782.wr W788)
  have f793 : Fld Z h788 r_183 kS0 "coder" "B" (.int 0) := (f783.other W788 (Or.inl (Ne.symm ne778)))
  have f794 : Fld Z h788 r_183 kS0 "value" "[B" (.ref t_183) := (f784.other W788 (Or.inl (Ne.symm ne778)))
  have f795 : Arv Z h788 t_183 k_183 .byte N_183 vs_183 (.int 0) := (f786.other W788 ne785)
  obtain ⟨_, _, ⟨T790, L790, k790, n790⟩, -, X790, ⟨Lc790, hQ790, l790, y790, z790⟩, st790⟩ := Jvm.LawKit.callS X788 hx (y := (⟨kS1, "at", kS3⟩ : MethodName)) hown183 (mvT hZ183 (wd hw 14 rfl)) (mvT hZ183 (wd hw 15 rfl)) (mvT hZ183 (wd hw 2 rfl)) (mvT hZ183 (wd hw 16 rfl)) (by decide) (backOf (W := 2) (rm_at l Z a0 hw [] (2 : Int32) uw pp xx p3 p4 p5 r_183 t_183 k_183 N_183 vs_183 cs_183 z0 f0 h788 n0 nz788 f791 f792 f793 f794 f795 (by first | assumption | decide | omega) (by first | assumption | decide | omega) (by first | assumption | decide | omega) (by first | assumption | decide | omega) r183_0 r183_1 r183_2 r183_3 (by decide) rxx qxx) hZ183 (wd hw 16 rfl) (wd hw 2 rfl) (by decide) (by decide)) (g := (mkF m 165 (la17 p0 p1 p2 p3 p4 p5 uw xl r_183 (9 : Int32) pp xx b767) [(.int p5), (.int p4), (.int p3), (.int xx), (.int pp), (.int uw), (.ref r_183), (.int 2), (.int 2), (.ref b767)])) rfl (by rw [hml]; rfl) (argsL := [(.int 2), (.ref r_183), (.int uw), (.int pp), (.int xx), (.int p3), (.int p4), (.int p5)]) (rest := [(.int 2), (.ref b767)]) (lenOf pd_9 rfl) rfl (wz rfl) (hb hby at_165) (fun _ _ => ⟨rfl, e788, (by decide : 3 + 0 ≤ _), (by decide : 49 + 0 ≤ _)⟩)
  dsimp only [Pt.U, Pt.locs, Pt.cells, Pt.slots] at X790 l790 y790 z790 st790 hQ790
  rw [l790, y790, z790] at X790
  obtain ⟨cv_790, rfl, N790q, e790, r790_0, r790_1⟩ := hQ790
  have N790 := Fr.app N788 N790q
  obtain ⟨cl796, Ar796, q796, S796, M796, H796, G796⟩ := id V788
  have hin796 : ¬ ((2 : Int32) < 0 ∨ cl796.slots.size ≤ ((2 : Int32)).toNatClampNeg) := inb_of S796 ⟨by decide, by decide⟩
  obtain ⟨T797, h797, X797, e797, W797, st797⟩ := stC X790 hx hZ183 e790 Ar796 (j := (2 : Int32)) hin796 (g := (mkF m 168 (la17 p0 p1 p2 p3 p4 p5 uw xl r_183 (9 : Int32) pp xx b767) [(.int cv_790), (.int 2), (.ref b767)])) rfl rfl (hb hby at_168)
  have N797 := Fr.snoc X797 N790 ge777
  have C798 : CHr Z EL1 s.vm h0 T183.vm h797 := C789.trans (CHr.wr W797 (Safe.arv hZ183.alike V788 (by decide)) C789.1)
  have sz797 : h788.size ≤ h797.size := Nat.le_of_eq W797.size.symm
  have nz797 := Nat.le_trans nz788 sz797
  have V797 : Arv Z h797 b767 k767 .char (9 : Int32) [(.int (nar .char cv_769)), (.int (nar .char cv_780)), (.int (nar .char cv_790)), (.int 0), (.int 0), (.int 0), (.int 0), (.int 0), (.int 0)] (.int 0) := Arv.set Ar796 q796 S796 M796 H796 G796 (fits_nar_char _) W797 2 rfl (Nat.le_of_ble_eq_true rfl)
  -- pc 192: KindNamedPinLaw.at by rm_at
  have f800 : Old Z n0 h797 := (f791.wr W797 ge777)
  have f801 : Exa Z h797 r_183 kS0 := (f792.wr W797)
  have f802 : Fld Z h797 r_183 kS0 "coder" "B" (.int 0) := (f793.other W797 (Or.inl (Ne.symm ne778)))
  have f803 : Fld Z h797 r_183 kS0 "value" "[B" (.ref t_183) := (f794.other W797 (Or.inl (Ne.symm ne778)))
  have f804 : Arv Z h797 t_183 k_183 .byte N_183 vs_183 (.int 0) := (f795.other W797 ne785)
  obtain ⟨_, _, ⟨T799, L799, k799, n799⟩, -, X799, ⟨Lc799, hQ799, l799, y799, z799⟩, st799⟩ := Jvm.LawKit.callS X797 hx (y := (⟨kS1, "at", kS3⟩ : MethodName)) hown183 (mvT hZ183 (wd hw 14 rfl)) (mvT hZ183 (wd hw 15 rfl)) (mvT hZ183 (wd hw 2 rfl)) (mvT hZ183 (wd hw 16 rfl)) (by decide) (backOf (W := 2) (rm_at l Z a0 hw [] (3 : Int32) uw pp xx p3 p4 p5 r_183 t_183 k_183 N_183 vs_183 cs_183 z0 f0 h797 n0 nz797 f800 f801 f802 f803 f804 (by first | assumption | decide | omega) (by first | assumption | decide | omega) (by first | assumption | decide | omega) (by first | assumption | decide | omega) r183_0 r183_1 r183_2 r183_3 (by decide) rxx qxx) hZ183 (wd hw 16 rfl) (wd hw 2 rfl) (by decide) (by decide)) (g := (mkF m 192 (la17 p0 p1 p2 p3 p4 p5 uw xl r_183 (9 : Int32) pp xx b767) [(.int p5), (.int p4), (.int p3), (.int xx), (.int pp), (.int uw), (.ref r_183), (.int 3), (.int 3), (.ref b767)])) rfl (by rw [hml]; rfl) (argsL := [(.int 3), (.ref r_183), (.int uw), (.int pp), (.int xx), (.int p3), (.int p4), (.int p5)]) (rest := [(.int 3), (.ref b767)]) (lenOf pd_9 rfl) rfl (wz rfl) (hb hby at_192) (fun _ _ => ⟨rfl, e797, (by decide : 3 + 0 ≤ _), (by decide : 49 + 0 ≤ _)⟩)
  dsimp only [Pt.U, Pt.locs, Pt.cells, Pt.slots] at X799 l799 y799 z799 st799 hQ799
  rw [l799, y799, z799] at X799
  obtain ⟨cv_799, rfl, N799q, e799, r799_0, r799_1⟩ := hQ799
  have N799 := Fr.app N797 N799q
  obtain ⟨cl805, Ar805, q805, S805, M805, H805, G805⟩ := id V797
  have hin805 : ¬ ((3 : Int32) < 0 ∨ cl805.slots.size ≤ ((3 : Int32)).toNatClampNeg) := inb_of S805 ⟨by decide, by decide⟩
  obtain ⟨T806, h806, X806, e806, W806, st806⟩ := stC X799 hx hZ183 e799 Ar805 (j := (3 : Int32)) hin805 (g := (mkF m 195 (la17 p0 p1 p2 p3 p4 p5 uw xl r_183 (9 : Int32) pp xx b767) [(.int cv_799), (.int 3), (.ref b767)])) rfl rfl (hb hby at_195)
  have N806 := Fr.snoc X806 N799 ge777
  have C807 : CHr Z EL1 s.vm h0 T183.vm h806 := C798.trans (CHr.wr W806 (Safe.arv hZ183.alike V797 (by decide)) C798.1)
  have sz806 : h797.size ≤ h806.size := Nat.le_of_eq W806.size.symm
  have nz806 := Nat.le_trans nz797 sz806
  have V806 : Arv Z h806 b767 k767 .char (9 : Int32) [(.int (nar .char cv_769)), (.int (nar .char cv_780)), (.int (nar .char cv_790)), (.int (nar .char cv_799)), (.int 0), (.int 0), (.int 0), (.int 0), (.int 0)] (.int 0) := Arv.set Ar805 q805 S805 M805 H805 G805 (fits_nar_char _) W806 3 rfl (Nat.le_of_ble_eq_true rfl)
  -- pc 219: KindNamedPinLaw.at by rm_at
  have f809 : Old Z n0 h806 := (f800.wr W806 ge777)
  have f810 : Exa Z h806 r_183 kS0 := (f801.wr W806)
  have f811 : Fld Z h806 r_183 kS0 "coder" "B" (.int 0) := (f802.other W806 (Or.inl (Ne.symm ne778)))
  have f812 : Fld Z h806 r_183 kS0 "value" "[B" (.ref t_183) := (f803.other W806 (Or.inl (Ne.symm ne778)))
  have f813 : Arv Z h806 t_183 k_183 .byte N_183 vs_183 (.int 0) := (f804.other W806 ne785)
  obtain ⟨_, _, ⟨T808, L808, k808, n808⟩, -, X808, ⟨Lc808, hQ808, l808, y808, z808⟩, st808⟩ := Jvm.LawKit.callS X806 hx (y := (⟨kS1, "at", kS3⟩ : MethodName)) hown183 (mvT hZ183 (wd hw 14 rfl)) (mvT hZ183 (wd hw 15 rfl)) (mvT hZ183 (wd hw 2 rfl)) (mvT hZ183 (wd hw 16 rfl)) (by decide) (backOf (W := 2) (rm_at l Z a0 hw [] (4 : Int32) uw pp xx p3 p4 p5 r_183 t_183 k_183 N_183 vs_183 cs_183 z0 f0 h806 n0 nz806 f809 f810 f811 f812 f813 (by first | assumption | decide | omega) (by first | assumption | decide | omega) (by first | assumption | decide | omega) (by first | assumption | decide | omega) r183_0 r183_1 r183_2 r183_3 (by decide) rxx qxx) hZ183 (wd hw 16 rfl) (wd hw 2 rfl) (by decide) (by decide)) (g := (mkF m 219 (la17 p0 p1 p2 p3 p4 p5 uw xl r_183 (9 : Int32) pp xx b767) [(.int p5), (.int p4), (.int p3), (.int xx), (.int pp), (.int uw), (.ref r_183), (.int 4), (.int 4), (.ref b767)])) rfl (by rw [hml]; rfl) (argsL := [(.int 4), (.ref r_183), (.int uw), (.int pp), (.int xx), (.int p3), (.int p4), (.int p5)]) (rest := [(.int 4), (.ref b767)]) (lenOf pd_9 rfl) rfl (wz rfl) (hb hby at_219) (fun _ _ => ⟨rfl, e806, (by decide : 3 + 0 ≤ _), (by decide : 49 + 0 ≤ _)⟩)
  dsimp only [Pt.U, Pt.locs, Pt.cells, Pt.slots] at X808 l808 y808 z808 st808 hQ808
  rw [l808, y808, z808] at X808
  obtain ⟨cv_808, rfl, N808q, e808, r808_0, r808_1⟩ := hQ808
  have N808 := Fr.app N806 N808q
  obtain ⟨cl814, Ar814, q814, S814, M814, H814, G814⟩ := id V806
  have hin814 : ¬ ((4 : Int32) < 0 ∨ cl814.slots.size ≤ ((4 : Int32)).toNatClampNeg) := inb_of S814 ⟨by decide, by decide⟩
  obtain ⟨T815, h815, X815, e815, W815, st815⟩ := stC X808 hx hZ183 e808 Ar814 (j := (4 : Int32)) hin814 (g := (mkF m 222 (la17 p0 p1 p2 p3 p4 p5 uw xl r_183 (9 : Int32) pp xx b767) [(.int cv_808), (.int 4), (.ref b767)])) rfl rfl (hb hby at_222)
  have N815 := Fr.snoc X815 N808 ge777
  have C816 : CHr Z EL1 s.vm h0 T183.vm h815 := C807.trans (CHr.wr W815 (Safe.arv hZ183.alike V806 (by decide)) C807.1)
  have sz815 : h806.size ≤ h815.size := Nat.le_of_eq W815.size.symm
  have nz815 := Nat.le_trans nz806 sz815
  have V815 : Arv Z h815 b767 k767 .char (9 : Int32) [(.int (nar .char cv_769)), (.int (nar .char cv_780)), (.int (nar .char cv_790)), (.int (nar .char cv_799)), (.int (nar .char cv_808)), (.int 0), (.int 0), (.int 0), (.int 0)] (.int 0) := Arv.set Ar814 q814 S814 M814 H814 G814 (fits_nar_char _) W815 4 rfl (Nat.le_of_ble_eq_true rfl)
  -- pc 246: KindNamedPinLaw.at by rm_at
  have f818 : Old Z n0 h815 := (f809.wr W815 ge777)
  have f819 : Exa Z h815 r_183 kS0 := (f810.wr W815)
  have f820 : Fld Z h815 r_183 kS0 "coder" "B" (.int 0) := (f811.other W815 (Or.inl (Ne.symm ne778)))
  have f821 : Fld Z h815 r_183 kS0 "value" "[B" (.ref t_183) := (f812.other W815 (Or.inl (Ne.symm ne778)))
  have f822 : Arv Z h815 t_183 k_183 .byte N_183 vs_183 (.int 0) := (f813.other W815 ne785)
  obtain ⟨_, _, ⟨T817, L817, k817, n817⟩, -, X817, ⟨Lc817, hQ817, l817, y817, z817⟩, st817⟩ := Jvm.LawKit.callS X815 hx (y := (⟨kS1, "at", kS3⟩ : MethodName)) hown183 (mvT hZ183 (wd hw 14 rfl)) (mvT hZ183 (wd hw 15 rfl)) (mvT hZ183 (wd hw 2 rfl)) (mvT hZ183 (wd hw 16 rfl)) (by decide) (backOf (W := 2) (rm_at l Z a0 hw [] (5 : Int32) uw pp xx p3 p4 p5 r_183 t_183 k_183 N_183 vs_183 cs_183 z0 f0 h815 n0 nz815 f818 f819 f820 f821 f822 (by first | assumption | decide | omega) (by first | assumption | decide | omega) (by first | assumption | decide | omega) (by first | assumption | decide | omega) r183_0 r183_1 r183_2 r183_3 (by decide) rxx qxx) hZ183 (wd hw 16 rfl) (wd hw 2 rfl) (by decide) (by decide)) (g := (mkF m 246 (la17 p0 p1 p2 p3 p4 p5 uw xl r_183 (9 : Int32) pp xx b767) [(.int p5), (.int p4), (.int p3), (.int xx), (.int pp), (.int uw), (.ref r_183), (.int 5), (.int 5), (.ref b767)])) rfl (by rw [hml]; rfl) (argsL := [(.int 5), (.ref r_183), (.int uw), (.int pp), (.int xx), (.int p3), (.int p4), (.int p5)]) (rest := [(.int 5), (.ref b767)]) (lenOf pd_9 rfl) rfl (wz rfl) (hb hby at_246) (fun _ _ => ⟨rfl, e815, (by decide : 3 + 0 ≤ _), (by decide : 49 + 0 ≤ _)⟩)
  dsimp only [Pt.U, Pt.locs, Pt.cells, Pt.slots] at X817 l817 y817 z817 st817 hQ817
  rw [l817, y817, z817] at X817
  obtain ⟨cv_817, rfl, N817q, e817, r817_0, r817_1⟩ := hQ817
  have N817 := Fr.app N815 N817q
  obtain ⟨cl823, Ar823, q823, S823, M823, H823, G823⟩ := id V815
  have hin823 : ¬ ((5 : Int32) < 0 ∨ cl823.slots.size ≤ ((5 : Int32)).toNatClampNeg) := inb_of S823 ⟨by decide, by decide⟩
  obtain ⟨T824, h824, X824, e824, W824, st824⟩ := stC X817 hx hZ183 e817 Ar823 (j := (5 : Int32)) hin823 (g := (mkF m 249 (la17 p0 p1 p2 p3 p4 p5 uw xl r_183 (9 : Int32) pp xx b767) [(.int cv_817), (.int 5), (.ref b767)])) rfl rfl (hb hby at_249)
  have N824 := Fr.snoc X824 N817 ge777
  have C825 : CHr Z EL1 s.vm h0 T183.vm h824 := C816.trans (CHr.wr W824 (Safe.arv hZ183.alike V815 (by decide)) C816.1)
  have sz824 : h815.size ≤ h824.size := Nat.le_of_eq W824.size.symm
  have nz824 := Nat.le_trans nz815 sz824
  have V824 : Arv Z h824 b767 k767 .char (9 : Int32) [(.int (nar .char cv_769)), (.int (nar .char cv_780)), (.int (nar .char cv_790)), (.int (nar .char cv_799)), (.int (nar .char cv_808)), (.int (nar .char cv_817)), (.int 0), (.int 0), (.int 0)] (.int 0) := Arv.set Ar823 q823 S823 M823 H823 G823 (fits_nar_char _) W824 5 rfl (Nat.le_of_ble_eq_true rfl)
  -- pc 276: KindNamedPinLaw.at by rm_at
  have f827 : Old Z n0 h824 := (f818.wr W824 ge777)
  have f828 : Exa Z h824 r_183 kS0 := (f819.wr W824)
  have f829 : Fld Z h824 r_183 kS0 "coder" "B" (.int 0) := (f820.other W824 (Or.inl (Ne.symm ne778)))
  have f830 : Fld Z h824 r_183 kS0 "value" "[B" (.ref t_183) := (f821.other W824 (Or.inl (Ne.symm ne778)))
  have f831 : Arv Z h824 t_183 k_183 .byte N_183 vs_183 (.int 0) := (f822.other W824 ne785)
  obtain ⟨_, _, ⟨T826, L826, k826, n826⟩, -, X826, ⟨Lc826, hQ826, l826, y826, z826⟩, st826⟩ := Jvm.LawKit.callS X824 hx (y := (⟨kS1, "at", kS3⟩ : MethodName)) hown183 (mvT hZ183 (wd hw 14 rfl)) (mvT hZ183 (wd hw 15 rfl)) (mvT hZ183 (wd hw 2 rfl)) (mvT hZ183 (wd hw 16 rfl)) (by decide) (backOf (W := 2) (rm_at l Z a0 hw [] (6 : Int32) uw pp xx p3 p4 p5 r_183 t_183 k_183 N_183 vs_183 cs_183 z0 f0 h824 n0 nz824 f827 f828 f829 f830 f831 (by first | assumption | decide | omega) (by first | assumption | decide | omega) (by first | assumption | decide | omega) (by first | assumption | decide | omega) r183_0 r183_1 r183_2 r183_3 (by decide) rxx qxx) hZ183 (wd hw 16 rfl) (wd hw 2 rfl) (by decide) (by decide)) (g := (mkF m 276 (la17 p0 p1 p2 p3 p4 p5 uw xl r_183 (9 : Int32) pp xx b767) [(.int p5), (.int p4), (.int p3), (.int xx), (.int pp), (.int uw), (.ref r_183), (.int 6), (.int 6), (.ref b767)])) rfl (by rw [hml]; rfl) (argsL := [(.int 6), (.ref r_183), (.int uw), (.int pp), (.int xx), (.int p3), (.int p4), (.int p5)]) (rest := [(.int 6), (.ref b767)]) (lenOf pd_9 rfl) rfl (wz rfl) (hb hby at_276) (fun _ _ => ⟨rfl, e824, (by decide : 3 + 0 ≤ _), (by decide : 49 + 0 ≤ _)⟩)
  dsimp only [Pt.U, Pt.locs, Pt.cells, Pt.slots] at X826 l826 y826 z826 st826 hQ826
  rw [l826, y826, z826] at X826
  obtain ⟨cv_826, rfl, N826q, e826, r826_0, r826_1⟩ := hQ826
  have N826 := Fr.app N824 N826q
  obtain ⟨cl832, Ar832, q832, S832, M832, H832, G832⟩ := id V824
  have hin832 : ¬ ((6 : Int32) < 0 ∨ cl832.slots.size ≤ ((6 : Int32)).toNatClampNeg) := inb_of S832 ⟨by decide, by decide⟩
  obtain ⟨T833, h833, X833, e833, W833, st833⟩ := stC X826 hx hZ183 e826 Ar832 (j := (6 : Int32)) hin832 (g := (mkF m 279 (la17 p0 p1 p2 p3 p4 p5 uw xl r_183 (9 : Int32) pp xx b767) [(.int cv_826), (.int 6), (.ref b767)])) rfl rfl (hb hby at_279)
  have N833 := Fr.snoc X833 N826 ge777
  have C834 : CHr Z EL1 s.vm h0 T183.vm h833 := C825.trans (CHr.wr W833 (Safe.arv hZ183.alike V824 (by decide)) C825.1)
  have sz833 : h824.size ≤ h833.size := Nat.le_of_eq W833.size.symm
  have nz833 := Nat.le_trans nz824 sz833
  have V833 : Arv Z h833 b767 k767 .char (9 : Int32) [(.int (nar .char cv_769)), (.int (nar .char cv_780)), (.int (nar .char cv_790)), (.int (nar .char cv_799)), (.int (nar .char cv_808)), (.int (nar .char cv_817)), (.int (nar .char cv_826)), (.int 0), (.int 0)] (.int 0) := Arv.set Ar832 q832 S832 M832 H832 G832 (fits_nar_char _) W833 6 rfl (Nat.le_of_ble_eq_true rfl)
  -- pc 306: KindNamedPinLaw.at by rm_at
  have f836 : Old Z n0 h833 := (f827.wr W833 ge777)
  have f837 : Exa Z h833 r_183 kS0 := (f828.wr W833)
  have f838 : Fld Z h833 r_183 kS0 "coder" "B" (.int 0) := (f829.other W833 (Or.inl (Ne.symm ne778)))
  have f839 : Fld Z h833 r_183 kS0 "value" "[B" (.ref t_183) := (f830.other W833 (Or.inl (Ne.symm ne778)))
  have f840 : Arv Z h833 t_183 k_183 .byte N_183 vs_183 (.int 0) := (f831.other W833 ne785)
  obtain ⟨_, _, ⟨T835, L835, k835, n835⟩, -, X835, ⟨Lc835, hQ835, l835, y835, z835⟩, st835⟩ := Jvm.LawKit.callS X833 hx (y := (⟨kS1, "at", kS3⟩ : MethodName)) hown183 (mvT hZ183 (wd hw 14 rfl)) (mvT hZ183 (wd hw 15 rfl)) (mvT hZ183 (wd hw 2 rfl)) (mvT hZ183 (wd hw 16 rfl)) (by decide) (backOf (W := 2) (rm_at l Z a0 hw [] (7 : Int32) uw pp xx p3 p4 p5 r_183 t_183 k_183 N_183 vs_183 cs_183 z0 f0 h833 n0 nz833 f836 f837 f838 f839 f840 (by first | assumption | decide | omega) (by first | assumption | decide | omega) (by first | assumption | decide | omega) (by first | assumption | decide | omega) r183_0 r183_1 r183_2 r183_3 (by decide) rxx qxx) hZ183 (wd hw 16 rfl) (wd hw 2 rfl) (by decide) (by decide)) (g := (mkF m 306 (la17 p0 p1 p2 p3 p4 p5 uw xl r_183 (9 : Int32) pp xx b767) [(.int p5), (.int p4), (.int p3), (.int xx), (.int pp), (.int uw), (.ref r_183), (.int 7), (.int 7), (.ref b767)])) rfl (by rw [hml]; rfl) (argsL := [(.int 7), (.ref r_183), (.int uw), (.int pp), (.int xx), (.int p3), (.int p4), (.int p5)]) (rest := [(.int 7), (.ref b767)]) (lenOf pd_9 rfl) rfl (wz rfl) (hb hby at_306) (fun _ _ => ⟨rfl, e833, (by decide : 3 + 0 ≤ _), (by decide : 49 + 0 ≤ _)⟩)
  dsimp only [Pt.U, Pt.locs, Pt.cells, Pt.slots] at X835 l835 y835 z835 st835 hQ835
  rw [l835, y835, z835] at X835
  obtain ⟨cv_835, rfl, N835q, e835, r835_0, r835_1⟩ := hQ835
  have N835 := Fr.app N833 N835q
  obtain ⟨cl841, Ar841, q841, S841, M841, H841, G841⟩ := id V833
  have hin841 : ¬ ((7 : Int32) < 0 ∨ cl841.slots.size ≤ ((7 : Int32)).toNatClampNeg) := inb_of S841 ⟨by decide, by decide⟩
  obtain ⟨T842, h842, X842, e842, W842, st842⟩ := stC X835 hx hZ183 e835 Ar841 (j := (7 : Int32)) hin841 (g := (mkF m 309 (la17 p0 p1 p2 p3 p4 p5 uw xl r_183 (9 : Int32) pp xx b767) [(.int cv_835), (.int 7), (.ref b767)])) rfl rfl (hb hby at_309)
  have N842 := Fr.snoc X842 N835 ge777
  have C843 : CHr Z EL1 s.vm h0 T183.vm h842 := C834.trans (CHr.wr W842 (Safe.arv hZ183.alike V833 (by decide)) C834.1)
  have sz842 : h833.size ≤ h842.size := Nat.le_of_eq W842.size.symm
  have nz842 := Nat.le_trans nz833 sz842
  have V842 : Arv Z h842 b767 k767 .char (9 : Int32) [(.int (nar .char cv_769)), (.int (nar .char cv_780)), (.int (nar .char cv_790)), (.int (nar .char cv_799)), (.int (nar .char cv_808)), (.int (nar .char cv_817)), (.int (nar .char cv_826)), (.int (nar .char cv_835)), (.int 0)] (.int 0) := Arv.set Ar841 q841 S841 M841 H841 G841 (fits_nar_char _) W842 7 rfl (Nat.le_of_ble_eq_true rfl)
  -- pc 336: KindNamedPinLaw.at by rm_at
  have f845 : Old Z n0 h842 := (f836.wr W842 ge777)
  have f846 : Exa Z h842 r_183 kS0 := (f837.wr W842)
  have f847 : Fld Z h842 r_183 kS0 "coder" "B" (.int 0) := (f838.other W842 (Or.inl (Ne.symm ne778)))
  have f848 : Fld Z h842 r_183 kS0 "value" "[B" (.ref t_183) := (f839.other W842 (Or.inl (Ne.symm ne778)))
  have f849 : Arv Z h842 t_183 k_183 .byte N_183 vs_183 (.int 0) := (f840.other W842 ne785)
  obtain ⟨_, _, ⟨T844, L844, k844, n844⟩, -, X844, ⟨Lc844, hQ844, l844, y844, z844⟩, st844⟩ := Jvm.LawKit.callS X842 hx (y := (⟨kS1, "at", kS3⟩ : MethodName)) hown183 (mvT hZ183 (wd hw 14 rfl)) (mvT hZ183 (wd hw 15 rfl)) (mvT hZ183 (wd hw 2 rfl)) (mvT hZ183 (wd hw 16 rfl)) (by decide) (backOf (W := 2) (rm_at l Z a0 hw [] (8 : Int32) uw pp xx p3 p4 p5 r_183 t_183 k_183 N_183 vs_183 cs_183 z0 f0 h842 n0 nz842 f845 f846 f847 f848 f849 (by first | assumption | decide | omega) (by first | assumption | decide | omega) (by first | assumption | decide | omega) (by first | assumption | decide | omega) r183_0 r183_1 r183_2 r183_3 (by decide) rxx qxx) hZ183 (wd hw 16 rfl) (wd hw 2 rfl) (by decide) (by decide)) (g := (mkF m 336 (la17 p0 p1 p2 p3 p4 p5 uw xl r_183 (9 : Int32) pp xx b767) [(.int p5), (.int p4), (.int p3), (.int xx), (.int pp), (.int uw), (.ref r_183), (.int 8), (.int 8), (.ref b767)])) rfl (by rw [hml]; rfl) (argsL := [(.int 8), (.ref r_183), (.int uw), (.int pp), (.int xx), (.int p3), (.int p4), (.int p5)]) (rest := [(.int 8), (.ref b767)]) (lenOf pd_9 rfl) rfl (wz rfl) (hb hby at_336) (fun _ _ => ⟨rfl, e842, (by decide : 3 + 0 ≤ _), (by decide : 49 + 0 ≤ _)⟩)
  dsimp only [Pt.U, Pt.locs, Pt.cells, Pt.slots] at X844 l844 y844 z844 st844 hQ844
  rw [l844, y844, z844] at X844
  obtain ⟨cv_844, rfl, N844q, e844, r844_0, r844_1⟩ := hQ844
  have N844 := Fr.app N842 N844q
  obtain ⟨cl850, Ar850, q850, S850, M850, H850, G850⟩ := id V842
  have hin850 : ¬ ((8 : Int32) < 0 ∨ cl850.slots.size ≤ ((8 : Int32)).toNatClampNeg) := inb_of S850 ⟨by decide, by decide⟩
  obtain ⟨T851, h851, X851, e851, W851, st851⟩ := stC X844 hx hZ183 e844 Ar850 (j := (8 : Int32)) hin850 (g := (mkF m 339 (la17 p0 p1 p2 p3 p4 p5 uw xl r_183 (9 : Int32) pp xx b767) [(.int cv_844), (.int 8), (.ref b767)])) rfl rfl (hb hby at_339)
  have N851 := Fr.snoc X851 N844 ge777
  have C852 : CHr Z EL1 s.vm h0 T183.vm h851 := C843.trans (CHr.wr W851 (Safe.arv hZ183.alike V842 (by decide)) C843.1)
  have sz851 : h842.size ≤ h851.size := Nat.le_of_eq W851.size.symm
  have nz851 := Nat.le_trans nz842 sz851
  have V851 : Arv Z h851 b767 k767 .char (9 : Int32) [(.int (nar .char cv_769)), (.int (nar .char cv_780)), (.int (nar .char cv_790)), (.int (nar .char cv_799)), (.int (nar .char cv_808)), (.int (nar .char cv_817)), (.int (nar .char cv_826)), (.int (nar .char cv_835)), (.int (nar .char cv_844))] (.int 0) := Arv.set Ar850 q850 S850 M850 H850 G850 (fits_nar_char _) W851 8 rfl (Nat.le_of_ble_eq_true rfl)
  have V853 : Arv Z h851 b767 k767 .char (9 : Int32) [(.int cv_769), (.int cv_780), (.int cv_790), (.int cv_799), (.int cv_808), (.int cv_817), (.int cv_826), (.int cv_835), (.int cv_844)] (.int 0) := by
   have q := V851
   rw [r769_1, r780_1, r790_1, r799_1, r808_1, r817_1, r826_1, r835_1, r844_1] at q
   exact q
  obtain ⟨T854, h854, X854, e854, E854, A854, D854, U854, st854⟩ := newO X851 hx hZ183 hown183 (wd hw 20 rfl) (wd hw 6 rfl) (wd hw 5 rfl) e851 (g := (mkF m 370 (la17 p0 p1 p2 p3 p4 p5 uw xl r_183 (9 : Int32) pp xx b767) [])) rfl (hb hby at_370) (by decide) (by decide)
  obtain ⟨b854, g854⟩ : ∃ z, z = h851.size := ⟨_, rfl⟩
  rw [← g854] at A854 D854 U854 st854
  have C855 : CHr Z EL1 s.vm h0 T183.vm h854 := C852.trans (CHr.ext E854 C852.1)
  have sz854 : h851.size ≤ h854.size := E854.1
  have nz854 := Nat.le_trans nz851 sz854
  have lt854 := ltA A854.lt
  have B854 : Safe Z EL1 T183.vm h854 b854 := Safe.ext E854 C852.1 (Safe.new (by omega))
  have f856 : Fld Z h854 b854 kS0 "value" "[B" .null := D854 (Or.inr (wd hw 8 rfl)) (ty := (.array .byte)) (by decide)
  have f857 : Fld Z h854 b854 kS0 "coder" "B" (.int 0) := D854 (Or.inr (wd hw 9 rfl)) (ty := .byte) (by decide)
  have f858 : Arv Z h854 b767 k767 .char (9 : Int32) [(.int cv_769), (.int cv_780), (.int cv_790), (.int cv_799), (.int cv_808), (.int cv_817), (.int cv_826), (.int cv_835), (.int cv_844)] (.int 0) := (V853.ext E854)
  have f859 : Old Z n0 h854 := ((f845.wr W851 ge777).ext E854)
  have S860 : Sta Z h854 kS0 "COMPACT_STRINGS" "Z" (.int z0) := SZc.ext f859.2
  obtain ⟨v861, _, ⟨T861, L861, k861, n861⟩, -, X861, ⟨Lc861, hQ861, l861, y861, z861⟩, st861⟩ := X854.specialBack hx (y := (⟨kS0, "<init>", "([C)V"⟩ : MethodName)) rfl hown183 (mvT hZ183 (wd hw 21 rfl)) (mvT hZ183 (wd hw 22 rfl)) (mvT hZ183 (wd hw 23 rfl)) (by decide) (StrChars.Road.backV (W := 1) hZ183 (own_hws hw) (kI := 4) (wd hw 6 rfl) (cs := ([cv_769, cv_780, cv_790, cv_799, cv_808, cv_817, cv_826, cv_835, cv_844] : List Int32)) (bs := ([cv_769, cv_780, cv_790, cv_799, cv_808, cv_817, cv_826, cv_835, cv_844] : List Int32).map (fun c => c.toInt8.toInt32)) (n := 9) (n0 := n0) (by omega) (by omega) A854 f856 f857 f858 S860 hz0 rfl rfl (by decide) (by decide) (own_allS r769_0 (own_allS r780_0 (own_allS r790_0 (own_allS r799_0 (own_allS r808_0 (own_allS r817_0 (own_allS r826_0 (own_allS r835_0 (own_allS r844_0 own_all0))))))))) rfl (by decide) (by decide)) (g := (mkF m 376 (la17 p0 p1 p2 p3 p4 p5 uw xl r_183 (9 : Int32) pp xx b767) [(.ref b767), (.ref b854), (.ref b854)])) rfl (by rw [hml]; rfl) (Steps.refl _) (a := b854) (argsL := [(.ref b767)]) (rest := [(.ref b854)]) (lenOf pd_7 rfl) rfl (wz rfl) (hb hby at_376) (fun _ _ => ⟨rfl, e854, (by decide : 4 + 1 ≤ _), (by decide : 53 + 9 ≤ _)⟩)
  dsimp only [Pt.U, Pt.locs, Pt.cells, Pt.slots] at X861 l861 y861 z861 st861 hQ861
  rw [l861, y861, z861] at X861
  obtain ⟨h861, e861⟩ : ∃ z, T861.heap = z := ⟨_, rfl⟩
  rw [e861] at hQ861
  obtain ⟨rfl, N861q, K861, A861, Fc861, t861, kb861, u861, lo861, nt861, Fv861, V861⟩ := hQ861
  have N861 := Fr.app N851 N861q
  have f862 : Arv Z h854 t_183 k_183 .byte N_183 vs_183 (.int 0) := ((f849.other W851 ne785).ext E854)
  have ne863 : b854 ≠ t_183 := Exa.neArv A854 f862 (wd hw 6 rfl)
  have C864 : CHr Z EL1 s.vm h0 T183.vm h861 := C855.trans (CHr.keep K861 (sfS B854 sf0) C855.1)
  have sz861 : h854.size ≤ h861.size := K861.1
  have nz861 := Nat.le_trans nz854 sz861
  have lt861 := ltA V861.lt
  have hcd861 : StrChars.Road.CodA ([cv_769, cv_780, cv_790, cv_799, cv_808, cv_817, cv_826, cv_835, cv_844] : List Int32) 0 (9 : Int32) ((([cv_769, cv_780, cv_790, cv_799, cv_808, cv_817, cv_826, cv_835, cv_844] : List Int32).map (fun c => c.toInt8.toInt32)).map Value.int) := own_codn rfl (fun c hc => ((own_allS r769_0 (own_allS r780_0 (own_allS r790_0 (own_allS r799_0 (own_allS r808_0 (own_allS r817_0 (own_allS r826_0 (own_allS r835_0 (own_allS r844_0 own_all0))))))))) c hc).2)
  -- pc 383: Kind.named by rm_named
  have ge866 : n0 ≤ b854 := by omega
  have f867 : Old Z n0 h861 := (f859.keep K861 (allS ge866 all0))
  obtain ⟨_, _, ⟨T865, L865, k865, n865⟩, -, X865, ⟨Lc865, hQ865, l865, y865, z865⟩, st865⟩ := Jvm.LawKit.callS X861 hx (y := (⟨"com/example/rolegrant/rolegrant/policy/Kind", "named", kS2⟩ : MethodName)) hown183 (mvT hZ183 (wd hw 44 rfl)) (mvT hZ183 (wd hw 45 rfl)) (mvT hZ183 (wd hw 46 rfl)) (mvT hZ183 (wd hw 47 rfl)) (by decide) (backOf (W := 0) (rm_named l Z a0 hw [] b854 t861 kb861 (9 : Int32) ((([cv_769, cv_780, cv_790, cv_799, cv_808, cv_817, cv_826, cv_835, cv_844] : List Int32).map (fun c => c.toInt8.toInt32)).map Value.int) ([cv_769, cv_780, cv_790, cv_799, cv_808, cv_817, cv_826, cv_835, cv_844] : List Int32) z0 va u0 u1 u2 u3 w0 w1 w2 w3 y0 y1 y2 y3 kV b0 b1 b2 b3 h861 n0 nz861 f867 A861 Fc861 Fv861 V861 (by first | assumption | decide | omega) (by first | assumption | decide | omega) hcd861 (own_up (own_allS r769_0 (own_allS r780_0 (own_allS r790_0 (own_allS r799_0 (own_allS r808_0 (own_allS r817_0 (own_allS r826_0 (own_allS r835_0 (own_allS r844_0 own_all0)))))))))) (Nat.le_of_ble_eq_true rfl) (by first | assumption | decide | omega)) hZ183 (wd hw 47 rfl) (wd hw 46 rfl) (by decide) (by decide)) (g := (mkF m 383 (la18 p0 p1 p2 p3 p4 p5 uw xl r_183 (9 : Int32) pp xx b767 b854) [(.ref b854)])) rfl (by rw [hml]; rfl) (argsL := [(.ref b854)]) (rest := []) (lenOf pd_8 rfl) rfl (wz rfl) (hb hby at_383) (fun _ _ => ⟨rfl, e861, (by decide : 5 + 1 ≤ _), (by decide : 62 + 4 ≤ _)⟩)
  dsimp only [Pt.U, Pt.locs, Pt.cells, Pt.slots] at X865 l865 y865 z865 st865 hQ865
  rw [l865, y865, z865] at X865
  obtain ⟨h865, e865⟩ : ∃ z, T865.heap = z := ⟨_, rfl⟩
  rw [e865] at hQ865
  obtain ⟨rfl, N865q, K865⟩ := hQ865
  have N865 := Fr.app N861 N865q
  have C868 : CHr Z EL1 s.vm h0 T183.vm h865 := C864.trans (CHr.keep K865 sf0 C864.1)
  have sz865 : h861.size ≤ h865.size := K865.1
  have nz865 := Nat.le_trans nz861 sz865
  -- pc 388: KindNamedPinLaw.expected by rm_exp
  have f870 : Old Z n0 h865 := (f867.keep K865 all0)
  have f871 : Exa Z h865 b854 kS0 := (A861.keep K865)
  have f872 : Fld Z h865 b854 kS0 "coder" "B" (.int 0) := (Fc861.keep K865 nin0)
  have f873 : Fld Z h865 b854 kS0 "value" "[B" (.ref t861) := (Fv861.keep K865 nin0)
  have f874 : Arv Z h865 t861 kb861 .byte (9 : Int32) ((([cv_769, cv_780, cv_790, cv_799, cv_808, cv_817, cv_826, cv_835, cv_844] : List Int32).map (fun c => c.toInt8.toInt32)).map Value.int) (.int 0) := (V861.keep K865 nin0)
  obtain ⟨_, _, ⟨T869, L869, k869, n869⟩, -, X869w, hS869w, gr869, ⟨Lc869, hQ869, l869, y869, z869, C869w⟩, st869⟩ := callSS X865 hx (y := (⟨kS1, "expected", kS2⟩ : MethodName)) hown183 (mvT hZ183 (wd hw 79 rfl)) (mvT hZ183 (wd hw 80 rfl)) (mvT hZ183 (wd hw 2 rfl)) (mvT hZ183 (wd hw 81 rfl)) (by decide) (own_backS (W := 1) (rm_exp l Z a0 hw [] b854 t861 kb861 (9 : Int32) ((([cv_769, cv_780, cv_790, cv_799, cv_808, cv_817, cv_826, cv_835, cv_844] : List Int32).map (fun c => c.toInt8.toInt32)).map Value.int) ([cv_769, cv_780, cv_790, cv_799, cv_808, cv_817, cv_826, cv_835, cv_844] : List Int32) z0 va u0 u1 u2 u3 w0 w1 w2 w3 y0 y1 y2 y3 kV b0 b1 b2 b3 h865 n0 nz865 f870 f871 f872 f873 f874 (by first | assumption | decide | omega) (by first | assumption | decide | omega) hcd861 (own_up (own_allS r769_0 (own_allS r780_0 (own_allS r790_0 (own_allS r799_0 (own_allS r808_0 (own_allS r817_0 (own_allS r826_0 (own_allS r835_0 (own_allS r844_0 own_all0)))))))))) (Nat.le_of_ble_eq_true rfl) (by first | assumption | decide | omega)) hZ183 (wd hw 81 rfl) (wd hw 2 rfl) (by decide) (by decide) (own_EW hw) C868.1 sf0 all0) (g := (mkF m 388 (la18 p0 p1 p2 p3 p4 p5 uw xl r_183 (9 : Int32) pp xx b767 b854) [(.ref b854), (own_pick ([cv_769, cv_780, cv_790, cv_799, cv_808, cv_817, cv_826, cv_835, cv_844] : List Int32) u0 u1 u2 u3)])) rfl (by rw [hml]; rfl) (argsL := [(.ref b854)]) (rest := [(own_pick ([cv_769, cv_780, cv_790, cv_799, cv_808, cv_817, cv_826, cv_835, cv_844] : List Int32) u0 u1 u2 u3)]) (lenOf pd_8 rfl) rfl (own_wx _ _ _ _ _) (hb hby at_388) (fun _ _ => ⟨rfl, e865, (by decide : 6 + 8 ≤ _), (by decide : 66 + 104 ≤ _)⟩)
  dsimp only [Pt.U, Pt.locs, Pt.cells, Pt.slots] at X869w hS869w gr869 l869 y869 z869 st869 hQ869 C869w
  rw [l869, y869, z869] at X869w
  obtain ⟨X869, hS869, hZ869, hown869⟩ := rebS hS183 (by rw [e865]; omega) X869w hS869w gr869 hZ183 hown183
  obtain ⟨h869, e869⟩ : ∃ z, T869.heap = z := ⟨_, rfl⟩
  rw [e869] at hQ869
  obtain ⟨rfl, N869q, K869⟩ := hQ869
  have N869 := Fr.app N865 N869q
  rw [e869] at C869w hS869
  have hk869 : h869.size ≤ h869.size := Nat.le_refl _
  have C875 : CHr Z EL1 s.vm h0 T869.vm h869 := C868.trans (C869w)
  have sz869 : h865.size ≤ h869.size := K869.1
  have nz869 := Nat.le_trans nz865 sz869
  obtain ⟨fs, hr, hrun, hended, hE⟩ := X869.leaveW hS869 (by rw [e869]; omega) (v := some (.int 1)) (fun h => by rw [Bd.returns] at h; cases h)
  have CE := C875.trans (CHv.at X869 hZ869 (own_EW hw) C875.1)
  refine ⟨_, _, pre196 _ ?_, hrun, hended, _, _, rfl, ?_, ?_, ⟨hE.1, hE.2.1, hE.2.2.1, hE.2.2.2.mono (by decide) (by decide)⟩⟩
  ·show GO p e below T186 (mkF m 83 (la16 p0 p1 p2 p3 p4 p5 uw xl r_183 (9 : Int32) pp xx) []) _
   refine XS.iload X186.here hx rfl (hb hby at_83) rfl ?_
   show GO p e below T186 (mkF m 85 (la16 p0 p1 p2 p3 p4 p5 uw xl r_183 (9 : Int32) pp xx) [(.int 9)]) _
   refine st767 _ ?_
   show GO p e below T767 (mkF m 87 (la16 p0 p1 p2 p3 p4 p5 uw xl r_183 (9 : Int32) pp xx) [(.ref b767)]) _
   refine XS.astore X767.here hx rfl (hb hby at_87) rfl rfl (l' := (la17 p0 p1 p2 p3 p4 p5 uw xl r_183 (9 : Int32) pp xx b767)) rfl ?_
   show GO p e below T767 (mkF m 89 (la17 p0 p1 p2 p3 p4 p5 uw xl r_183 (9 : Int32) pp xx b767) []) _
   refine XS.iload X767.here hx rfl (hb hby at_89) rfl ?_
   show GO p e below T767 (mkF m 91 (la17 p0 p1 p2 p3 p4 p5 uw xl r_183 (9 : Int32) pp xx b767) [(.int 9)]) _
   refine XS.ifNo X767.here hx rfl (hb hby at_91) rfl ((if0 _ _).trans (tlt ((by decide) : (0 : Int32) < (9 : Int32))).2.2.2) ?_
   show GO p e below T767 (mkF m 94 (la17 p0 p1 p2 p3 p4 p5 uw xl r_183 (9 : Int32) pp xx b767) []) _
   refine XS.aload X767.here hx rfl (hb hby at_94) rfl rfl ?_
   show GO p e below T767 (mkF m 96 (la17 p0 p1 p2 p3 p4 p5 uw xl r_183 (9 : Int32) pp xx b767) [(.ref b767)]) _
   refine XS.iconst X767.here hx rfl (hb hby at_96) ?_
   show GO p e below T767 (mkF m 97 (la17 p0 p1 p2 p3 p4 p5 uw xl r_183 (9 : Int32) pp xx b767) [(.int 0), (.ref b767)]) _
   refine XS.iconst X767.here hx rfl (hb hby at_97) ?_
   show GO p e below T767 (mkF m 98 (la17 p0 p1 p2 p3 p4 p5 uw xl r_183 (9 : Int32) pp xx b767) [(.int 0), (.int 0), (.ref b767)]) _
   refine XS.aload X767.here hx rfl (hb hby at_98) rfl rfl ?_
   show GO p e below T767 (mkF m 100 (la17 p0 p1 p2 p3 p4 p5 uw xl r_183 (9 : Int32) pp xx b767) [(.ref r_183), (.int 0), (.int 0), (.ref b767)]) _
   refine XS.iload X767.here hx rfl (hb hby at_100) rfl ?_
   show GO p e below T767 (mkF m 102 (la17 p0 p1 p2 p3 p4 p5 uw xl r_183 (9 : Int32) pp xx b767) [(.int uw), (.ref r_183), (.int 0), (.int 0), (.ref b767)]) _
   refine XS.iload X767.here hx rfl (hb hby at_102) rfl ?_
   show GO p e below T767 (mkF m 104 (la17 p0 p1 p2 p3 p4 p5 uw xl r_183 (9 : Int32) pp xx b767) [(.int pp), (.int uw), (.ref r_183), (.int 0), (.int 0), (.ref b767)]) _
   refine XS.iload X767.here hx rfl (hb hby at_104) rfl ?_
   show GO p e below T767 (mkF m 106 (la17 p0 p1 p2 p3 p4 p5 uw xl r_183 (9 : Int32) pp xx b767) [(.int xx), (.int pp), (.int uw), (.ref r_183), (.int 0), (.int 0), (.ref b767)]) _
   refine XS.iloadN X767.here hx rfl (hb hby at_106) rfl ?_
   show GO p e below T767 (mkF m 107 (la17 p0 p1 p2 p3 p4 p5 uw xl r_183 (9 : Int32) pp xx b767) [(.int p3), (.int xx), (.int pp), (.int uw), (.ref r_183), (.int 0), (.int 0), (.ref b767)]) _
   refine XS.iload X767.here hx rfl (hb hby at_107) rfl ?_
   show GO p e below T767 (mkF m 109 (la17 p0 p1 p2 p3 p4 p5 uw xl r_183 (9 : Int32) pp xx b767) [(.int p4), (.int p3), (.int xx), (.int pp), (.int uw), (.ref r_183), (.int 0), (.int 0), (.ref b767)]) _
   refine XS.iload X767.here hx rfl (hb hby at_109) rfl ?_
   show GO p e below T767 (mkF m 111 (la17 p0 p1 p2 p3 p4 p5 uw xl r_183 (9 : Int32) pp xx b767) [(.int p5), (.int p4), (.int p3), (.int xx), (.int pp), (.int uw), (.ref r_183), (.int 0), (.int 0), (.ref b767)]) _
   refine st769 _ ?_
   show GO p e below T769 (mkF m 114 (la17 p0 p1 p2 p3 p4 p5 uw xl r_183 (9 : Int32) pp xx b767) [(.int cv_769), (.int 0), (.ref b767)]) _
   refine st776 _ ?_
   show GO p e below T776 (mkF m 115 (la17 p0 p1 p2 p3 p4 p5 uw xl r_183 (9 : Int32) pp xx b767) []) _
   refine XS.iload X776.here hx rfl (hb hby at_115) rfl ?_
   show GO p e below T776 (mkF m 117 (la17 p0 p1 p2 p3 p4 p5 uw xl r_183 (9 : Int32) pp xx b767) [(.int 9)]) _
   refine XS.iconst X776.here hx rfl (hb hby at_117) ?_
   show GO p e below T776 (mkF m 118 (la17 p0 p1 p2 p3 p4 p5 uw xl r_183 (9 : Int32) pp xx b767) [(.int 1), (.int 9)]) _
   refine XS.icmpNo X776.here hx rfl (hb hby at_118) rfl (tlt ((by decide) : (1 : Int32) < (9 : Int32))).2.2.2 ?_
   show GO p e below T776 (mkF m 121 (la17 p0 p1 p2 p3 p4 p5 uw xl r_183 (9 : Int32) pp xx b767) []) _
   refine XS.aload X776.here hx rfl (hb hby at_121) rfl rfl ?_
   show GO p e below T776 (mkF m 123 (la17 p0 p1 p2 p3 p4 p5 uw xl r_183 (9 : Int32) pp xx b767) [(.ref b767)]) _
   refine XS.iconst X776.here hx rfl (hb hby at_123) ?_
   show GO p e below T776 (mkF m 124 (la17 p0 p1 p2 p3 p4 p5 uw xl r_183 (9 : Int32) pp xx b767) [(.int 1), (.ref b767)]) _
   refine XS.iconst X776.here hx rfl (hb hby at_124) ?_
   show GO p e below T776 (mkF m 125 (la17 p0 p1 p2 p3 p4 p5 uw xl r_183 (9 : Int32) pp xx b767) [(.int 1), (.int 1), (.ref b767)]) _
   refine XS.aload X776.here hx rfl (hb hby at_125) rfl rfl ?_
   show GO p e below T776 (mkF m 127 (la17 p0 p1 p2 p3 p4 p5 uw xl r_183 (9 : Int32) pp xx b767) [(.ref r_183), (.int 1), (.int 1), (.ref b767)]) _
   refine XS.iload X776.here hx rfl (hb hby at_127) rfl ?_
   show GO p e below T776 (mkF m 129 (la17 p0 p1 p2 p3 p4 p5 uw xl r_183 (9 : Int32) pp xx b767) [(.int uw), (.ref r_183), (.int 1), (.int 1), (.ref b767)]) _
   refine XS.iload X776.here hx rfl (hb hby at_129) rfl ?_
   show GO p e below T776 (mkF m 131 (la17 p0 p1 p2 p3 p4 p5 uw xl r_183 (9 : Int32) pp xx b767) [(.int pp), (.int uw), (.ref r_183), (.int 1), (.int 1), (.ref b767)]) _
   refine XS.iload X776.here hx rfl (hb hby at_131) rfl ?_
   show GO p e below T776 (mkF m 133 (la17 p0 p1 p2 p3 p4 p5 uw xl r_183 (9 : Int32) pp xx b767) [(.int xx), (.int pp), (.int uw), (.ref r_183), (.int 1), (.int 1), (.ref b767)]) _
   refine XS.iloadN X776.here hx rfl (hb hby at_133) rfl ?_
   show GO p e below T776 (mkF m 134 (la17 p0 p1 p2 p3 p4 p5 uw xl r_183 (9 : Int32) pp xx b767) [(.int p3), (.int xx), (.int pp), (.int uw), (.ref r_183), (.int 1), (.int 1), (.ref b767)]) _
   refine XS.iload X776.here hx rfl (hb hby at_134) rfl ?_
   show GO p e below T776 (mkF m 136 (la17 p0 p1 p2 p3 p4 p5 uw xl r_183 (9 : Int32) pp xx b767) [(.int p4), (.int p3), (.int xx), (.int pp), (.int uw), (.ref r_183), (.int 1), (.int 1), (.ref b767)]) _
   refine XS.iload X776.here hx rfl (hb hby at_136) rfl ?_
   show GO p e below T776 (mkF m 138 (la17 p0 p1 p2 p3 p4 p5 uw xl r_183 (9 : Int32) pp xx b767) [(.int p5), (.int p4), (.int p3), (.int xx), (.int pp), (.int uw), (.ref r_183), (.int 1), (.int 1), (.ref b767)]) _
   refine st780 _ ?_
   show GO p e below T780 (mkF m 141 (la17 p0 p1 p2 p3 p4 p5 uw xl r_183 (9 : Int32) pp xx b767) [(.int cv_780), (.int 1), (.ref b767)]) _
   refine st788 _ ?_
   show GO p e below T788 (mkF m 142 (la17 p0 p1 p2 p3 p4 p5 uw xl r_183 (9 : Int32) pp xx b767) []) _
   refine XS.iload X788.here hx rfl (hb hby at_142) rfl ?_
   show GO p e below T788 (mkF m 144 (la17 p0 p1 p2 p3 p4 p5 uw xl r_183 (9 : Int32) pp xx b767) [(.int 9)]) _
   refine XS.iconst X788.here hx rfl (hb hby at_144) ?_
   show GO p e below T788 (mkF m 145 (la17 p0 p1 p2 p3 p4 p5 uw xl r_183 (9 : Int32) pp xx b767) [(.int 2), (.int 9)]) _
   refine XS.icmpNo X788.here hx rfl (hb hby at_145) rfl (tlt ((by decide) : (2 : Int32) < (9 : Int32))).2.2.2 ?_
   show GO p e below T788 (mkF m 148 (la17 p0 p1 p2 p3 p4 p5 uw xl r_183 (9 : Int32) pp xx b767) []) _
   refine XS.aload X788.here hx rfl (hb hby at_148) rfl rfl ?_
   show GO p e below T788 (mkF m 150 (la17 p0 p1 p2 p3 p4 p5 uw xl r_183 (9 : Int32) pp xx b767) [(.ref b767)]) _
   refine XS.iconst X788.here hx rfl (hb hby at_150) ?_
   show GO p e below T788 (mkF m 151 (la17 p0 p1 p2 p3 p4 p5 uw xl r_183 (9 : Int32) pp xx b767) [(.int 2), (.ref b767)]) _
   refine XS.iconst X788.here hx rfl (hb hby at_151) ?_
   show GO p e below T788 (mkF m 152 (la17 p0 p1 p2 p3 p4 p5 uw xl r_183 (9 : Int32) pp xx b767) [(.int 2), (.int 2), (.ref b767)]) _
   refine XS.aload X788.here hx rfl (hb hby at_152) rfl rfl ?_
   show GO p e below T788 (mkF m 154 (la17 p0 p1 p2 p3 p4 p5 uw xl r_183 (9 : Int32) pp xx b767) [(.ref r_183), (.int 2), (.int 2), (.ref b767)]) _
   refine XS.iload X788.here hx rfl (hb hby at_154) rfl ?_
   show GO p e below T788 (mkF m 156 (la17 p0 p1 p2 p3 p4 p5 uw xl r_183 (9 : Int32) pp xx b767) [(.int uw), (.ref r_183), (.int 2), (.int 2), (.ref b767)]) _
   refine XS.iload X788.here hx rfl (hb hby at_156) rfl ?_
   show GO p e below T788 (mkF m 158 (la17 p0 p1 p2 p3 p4 p5 uw xl r_183 (9 : Int32) pp xx b767) [(.int pp), (.int uw), (.ref r_183), (.int 2), (.int 2), (.ref b767)]) _
   refine XS.iload X788.here hx rfl (hb hby at_158) rfl ?_
   show GO p e below T788 (mkF m 160 (la17 p0 p1 p2 p3 p4 p5 uw xl r_183 (9 : Int32) pp xx b767) [(.int xx), (.int pp), (.int uw), (.ref r_183), (.int 2), (.int 2), (.ref b767)]) _
   refine XS.iloadN X788.here hx rfl (hb hby at_160) rfl ?_
   show GO p e below T788 (mkF m 161 (la17 p0 p1 p2 p3 p4 p5 uw xl r_183 (9 : Int32) pp xx b767) [(.int p3), (.int xx), (.int pp), (.int uw), (.ref r_183), (.int 2), (.int 2), (.ref b767)]) _
   refine XS.iload X788.here hx rfl (hb hby at_161) rfl ?_
   show GO p e below T788 (mkF m 163 (la17 p0 p1 p2 p3 p4 p5 uw xl r_183 (9 : Int32) pp xx b767) [(.int p4), (.int p3), (.int xx), (.int pp), (.int uw), (.ref r_183), (.int 2), (.int 2), (.ref b767)]) _
   refine XS.iload X788.here hx rfl (hb hby at_163) rfl ?_
   show GO p e below T788 (mkF m 165 (la17 p0 p1 p2 p3 p4 p5 uw xl r_183 (9 : Int32) pp xx b767) [(.int p5), (.int p4), (.int p3), (.int xx), (.int pp), (.int uw), (.ref r_183), (.int 2), (.int 2), (.ref b767)]) _
   refine st790 _ ?_
   show GO p e below T790 (mkF m 168 (la17 p0 p1 p2 p3 p4 p5 uw xl r_183 (9 : Int32) pp xx b767) [(.int cv_790), (.int 2), (.ref b767)]) _
   refine st797 _ ?_
   show GO p e below T797 (mkF m 169 (la17 p0 p1 p2 p3 p4 p5 uw xl r_183 (9 : Int32) pp xx b767) []) _
   refine XS.iload X797.here hx rfl (hb hby at_169) rfl ?_
   show GO p e below T797 (mkF m 171 (la17 p0 p1 p2 p3 p4 p5 uw xl r_183 (9 : Int32) pp xx b767) [(.int 9)]) _
   refine XS.iconst X797.here hx rfl (hb hby at_171) ?_
   show GO p e below T797 (mkF m 172 (la17 p0 p1 p2 p3 p4 p5 uw xl r_183 (9 : Int32) pp xx b767) [(.int 3), (.int 9)]) _
   refine XS.icmpNo X797.here hx rfl (hb hby at_172) rfl (tlt ((by decide) : (3 : Int32) < (9 : Int32))).2.2.2 ?_
   show GO p e below T797 (mkF m 175 (la17 p0 p1 p2 p3 p4 p5 uw xl r_183 (9 : Int32) pp xx b767) []) _
   refine XS.aload X797.here hx rfl (hb hby at_175) rfl rfl ?_
   show GO p e below T797 (mkF m 177 (la17 p0 p1 p2 p3 p4 p5 uw xl r_183 (9 : Int32) pp xx b767) [(.ref b767)]) _
   refine XS.iconst X797.here hx rfl (hb hby at_177) ?_
   show GO p e below T797 (mkF m 178 (la17 p0 p1 p2 p3 p4 p5 uw xl r_183 (9 : Int32) pp xx b767) [(.int 3), (.ref b767)]) _
   refine XS.iconst X797.here hx rfl (hb hby at_178) ?_
   show GO p e below T797 (mkF m 179 (la17 p0 p1 p2 p3 p4 p5 uw xl r_183 (9 : Int32) pp xx b767) [(.int 3), (.int 3), (.ref b767)]) _
   refine XS.aload X797.here hx rfl (hb hby at_179) rfl rfl ?_
   show GO p e below T797 (mkF m 181 (la17 p0 p1 p2 p3 p4 p5 uw xl r_183 (9 : Int32) pp xx b767) [(.ref r_183), (.int 3), (.int 3), (.ref b767)]) _
   refine XS.iload X797.here hx rfl (hb hby at_181) rfl ?_
   show GO p e below T797 (mkF m 183 (la17 p0 p1 p2 p3 p4 p5 uw xl r_183 (9 : Int32) pp xx b767) [(.int uw), (.ref r_183), (.int 3), (.int 3), (.ref b767)]) _
   refine XS.iload X797.here hx rfl (hb hby at_183) rfl ?_
   show GO p e below T797 (mkF m 185 (la17 p0 p1 p2 p3 p4 p5 uw xl r_183 (9 : Int32) pp xx b767) [(.int pp), (.int uw), (.ref r_183), (.int 3), (.int 3), (.ref b767)]) _
   refine XS.iload X797.here hx rfl (hb hby at_185) rfl ?_
   show GO p e below T797 (mkF m 187 (la17 p0 p1 p2 p3 p4 p5 uw xl r_183 (9 : Int32) pp xx b767) [(.int xx), (.int pp), (.int uw), (.ref r_183), (.int 3), (.int 3), (.ref b767)]) _
   refine XS.iloadN X797.here hx rfl (hb hby at_187) rfl ?_
   show GO p e below T797 (mkF m 188 (la17 p0 p1 p2 p3 p4 p5 uw xl r_183 (9 : Int32) pp xx b767) [(.int p3), (.int xx), (.int pp), (.int uw), (.ref r_183), (.int 3), (.int 3), (.ref b767)]) _
   refine XS.iload X797.here hx rfl (hb hby at_188) rfl ?_
   show GO p e below T797 (mkF m 190 (la17 p0 p1 p2 p3 p4 p5 uw xl r_183 (9 : Int32) pp xx b767) [(.int p4), (.int p3), (.int xx), (.int pp), (.int uw), (.ref r_183), (.int 3), (.int 3), (.ref b767)]) _
   refine XS.iload X797.here hx rfl (hb hby at_190) rfl ?_
   show GO p e below T797 (mkF m 192 (la17 p0 p1 p2 p3 p4 p5 uw xl r_183 (9 : Int32) pp xx b767) [(.int p5), (.int p4), (.int p3), (.int xx), (.int pp), (.int uw), (.ref r_183), (.int 3), (.int 3), (.ref b767)]) _
   refine st799 _ ?_
   show GO p e below T799 (mkF m 195 (la17 p0 p1 p2 p3 p4 p5 uw xl r_183 (9 : Int32) pp xx b767) [(.int cv_799), (.int 3), (.ref b767)]) _
   refine st806 _ ?_
   show GO p e below T806 (mkF m 196 (la17 p0 p1 p2 p3 p4 p5 uw xl r_183 (9 : Int32) pp xx b767) []) _
   refine XS.iload X806.here hx rfl (hb hby at_196) rfl ?_
   show GO p e below T806 (mkF m 198 (la17 p0 p1 p2 p3 p4 p5 uw xl r_183 (9 : Int32) pp xx b767) [(.int 9)]) _
   refine XS.iconst X806.here hx rfl (hb hby at_198) ?_
   show GO p e below T806 (mkF m 199 (la17 p0 p1 p2 p3 p4 p5 uw xl r_183 (9 : Int32) pp xx b767) [(.int 4), (.int 9)]) _
   refine XS.icmpNo X806.here hx rfl (hb hby at_199) rfl (tlt ((by decide) : (4 : Int32) < (9 : Int32))).2.2.2 ?_
   show GO p e below T806 (mkF m 202 (la17 p0 p1 p2 p3 p4 p5 uw xl r_183 (9 : Int32) pp xx b767) []) _
   refine XS.aload X806.here hx rfl (hb hby at_202) rfl rfl ?_
   show GO p e below T806 (mkF m 204 (la17 p0 p1 p2 p3 p4 p5 uw xl r_183 (9 : Int32) pp xx b767) [(.ref b767)]) _
   refine XS.iconst X806.here hx rfl (hb hby at_204) ?_
   show GO p e below T806 (mkF m 205 (la17 p0 p1 p2 p3 p4 p5 uw xl r_183 (9 : Int32) pp xx b767) [(.int 4), (.ref b767)]) _
   refine XS.iconst X806.here hx rfl (hb hby at_205) ?_
   show GO p e below T806 (mkF m 206 (la17 p0 p1 p2 p3 p4 p5 uw xl r_183 (9 : Int32) pp xx b767) [(.int 4), (.int 4), (.ref b767)]) _
   refine XS.aload X806.here hx rfl (hb hby at_206) rfl rfl ?_
   show GO p e below T806 (mkF m 208 (la17 p0 p1 p2 p3 p4 p5 uw xl r_183 (9 : Int32) pp xx b767) [(.ref r_183), (.int 4), (.int 4), (.ref b767)]) _
   refine XS.iload X806.here hx rfl (hb hby at_208) rfl ?_
   show GO p e below T806 (mkF m 210 (la17 p0 p1 p2 p3 p4 p5 uw xl r_183 (9 : Int32) pp xx b767) [(.int uw), (.ref r_183), (.int 4), (.int 4), (.ref b767)]) _
   refine XS.iload X806.here hx rfl (hb hby at_210) rfl ?_
   show GO p e below T806 (mkF m 212 (la17 p0 p1 p2 p3 p4 p5 uw xl r_183 (9 : Int32) pp xx b767) [(.int pp), (.int uw), (.ref r_183), (.int 4), (.int 4), (.ref b767)]) _
   refine XS.iload X806.here hx rfl (hb hby at_212) rfl ?_
   show GO p e below T806 (mkF m 214 (la17 p0 p1 p2 p3 p4 p5 uw xl r_183 (9 : Int32) pp xx b767) [(.int xx), (.int pp), (.int uw), (.ref r_183), (.int 4), (.int 4), (.ref b767)]) _
   refine XS.iloadN X806.here hx rfl (hb hby at_214) rfl ?_
   show GO p e below T806 (mkF m 215 (la17 p0 p1 p2 p3 p4 p5 uw xl r_183 (9 : Int32) pp xx b767) [(.int p3), (.int xx), (.int pp), (.int uw), (.ref r_183), (.int 4), (.int 4), (.ref b767)]) _
   refine XS.iload X806.here hx rfl (hb hby at_215) rfl ?_
   show GO p e below T806 (mkF m 217 (la17 p0 p1 p2 p3 p4 p5 uw xl r_183 (9 : Int32) pp xx b767) [(.int p4), (.int p3), (.int xx), (.int pp), (.int uw), (.ref r_183), (.int 4), (.int 4), (.ref b767)]) _
   refine XS.iload X806.here hx rfl (hb hby at_217) rfl ?_
   show GO p e below T806 (mkF m 219 (la17 p0 p1 p2 p3 p4 p5 uw xl r_183 (9 : Int32) pp xx b767) [(.int p5), (.int p4), (.int p3), (.int xx), (.int pp), (.int uw), (.ref r_183), (.int 4), (.int 4), (.ref b767)]) _
   refine st808 _ ?_
   show GO p e below T808 (mkF m 222 (la17 p0 p1 p2 p3 p4 p5 uw xl r_183 (9 : Int32) pp xx b767) [(.int cv_808), (.int 4), (.ref b767)]) _
   refine st815 _ ?_
   show GO p e below T815 (mkF m 223 (la17 p0 p1 p2 p3 p4 p5 uw xl r_183 (9 : Int32) pp xx b767) []) _
   refine XS.iload X815.here hx rfl (hb hby at_223) rfl ?_
   show GO p e below T815 (mkF m 225 (la17 p0 p1 p2 p3 p4 p5 uw xl r_183 (9 : Int32) pp xx b767) [(.int 9)]) _
   refine XS.iconst X815.here hx rfl (hb hby at_225) ?_
   show GO p e below T815 (mkF m 226 (la17 p0 p1 p2 p3 p4 p5 uw xl r_183 (9 : Int32) pp xx b767) [(.int 5), (.int 9)]) _
   refine XS.icmpNo X815.here hx rfl (hb hby at_226) rfl (tlt ((by decide) : (5 : Int32) < (9 : Int32))).2.2.2 ?_
   show GO p e below T815 (mkF m 229 (la17 p0 p1 p2 p3 p4 p5 uw xl r_183 (9 : Int32) pp xx b767) []) _
   refine XS.aload X815.here hx rfl (hb hby at_229) rfl rfl ?_
   show GO p e below T815 (mkF m 231 (la17 p0 p1 p2 p3 p4 p5 uw xl r_183 (9 : Int32) pp xx b767) [(.ref b767)]) _
   refine XS.iconst X815.here hx rfl (hb hby at_231) ?_
   show GO p e below T815 (mkF m 232 (la17 p0 p1 p2 p3 p4 p5 uw xl r_183 (9 : Int32) pp xx b767) [(.int 5), (.ref b767)]) _
   refine XS.iconst X815.here hx rfl (hb hby at_232) ?_
   show GO p e below T815 (mkF m 233 (la17 p0 p1 p2 p3 p4 p5 uw xl r_183 (9 : Int32) pp xx b767) [(.int 5), (.int 5), (.ref b767)]) _
   refine XS.aload X815.here hx rfl (hb hby at_233) rfl rfl ?_
   show GO p e below T815 (mkF m 235 (la17 p0 p1 p2 p3 p4 p5 uw xl r_183 (9 : Int32) pp xx b767) [(.ref r_183), (.int 5), (.int 5), (.ref b767)]) _
   refine XS.iload X815.here hx rfl (hb hby at_235) rfl ?_
   show GO p e below T815 (mkF m 237 (la17 p0 p1 p2 p3 p4 p5 uw xl r_183 (9 : Int32) pp xx b767) [(.int uw), (.ref r_183), (.int 5), (.int 5), (.ref b767)]) _
   refine XS.iload X815.here hx rfl (hb hby at_237) rfl ?_
   show GO p e below T815 (mkF m 239 (la17 p0 p1 p2 p3 p4 p5 uw xl r_183 (9 : Int32) pp xx b767) [(.int pp), (.int uw), (.ref r_183), (.int 5), (.int 5), (.ref b767)]) _
   refine XS.iload X815.here hx rfl (hb hby at_239) rfl ?_
   show GO p e below T815 (mkF m 241 (la17 p0 p1 p2 p3 p4 p5 uw xl r_183 (9 : Int32) pp xx b767) [(.int xx), (.int pp), (.int uw), (.ref r_183), (.int 5), (.int 5), (.ref b767)]) _
   refine XS.iloadN X815.here hx rfl (hb hby at_241) rfl ?_
   show GO p e below T815 (mkF m 242 (la17 p0 p1 p2 p3 p4 p5 uw xl r_183 (9 : Int32) pp xx b767) [(.int p3), (.int xx), (.int pp), (.int uw), (.ref r_183), (.int 5), (.int 5), (.ref b767)]) _
   refine XS.iload X815.here hx rfl (hb hby at_242) rfl ?_
   show GO p e below T815 (mkF m 244 (la17 p0 p1 p2 p3 p4 p5 uw xl r_183 (9 : Int32) pp xx b767) [(.int p4), (.int p3), (.int xx), (.int pp), (.int uw), (.ref r_183), (.int 5), (.int 5), (.ref b767)]) _
   refine XS.iload X815.here hx rfl (hb hby at_244) rfl ?_
   show GO p e below T815 (mkF m 246 (la17 p0 p1 p2 p3 p4 p5 uw xl r_183 (9 : Int32) pp xx b767) [(.int p5), (.int p4), (.int p3), (.int xx), (.int pp), (.int uw), (.ref r_183), (.int 5), (.int 5), (.ref b767)]) _
   refine st817 _ ?_
   show GO p e below T817 (mkF m 249 (la17 p0 p1 p2 p3 p4 p5 uw xl r_183 (9 : Int32) pp xx b767) [(.int cv_817), (.int 5), (.ref b767)]) _
   refine st824 _ ?_
   show GO p e below T824 (mkF m 250 (la17 p0 p1 p2 p3 p4 p5 uw xl r_183 (9 : Int32) pp xx b767) []) _
   refine XS.iload X824.here hx rfl (hb hby at_250) rfl ?_
   show GO p e below T824 (mkF m 252 (la17 p0 p1 p2 p3 p4 p5 uw xl r_183 (9 : Int32) pp xx b767) [(.int 9)]) _
   refine XS.bipush X824.here hx rfl (hb hby at_252) ?_
   show GO p e below T824 (mkF m 254 (la17 p0 p1 p2 p3 p4 p5 uw xl r_183 (9 : Int32) pp xx b767) [(.int 6), (.int 9)]) _
   refine XS.icmpNo X824.here hx rfl (hb hby at_254) rfl (tlt ((by decide) : (6 : Int32) < (9 : Int32))).2.2.2 ?_
   show GO p e below T824 (mkF m 257 (la17 p0 p1 p2 p3 p4 p5 uw xl r_183 (9 : Int32) pp xx b767) []) _
   refine XS.aload X824.here hx rfl (hb hby at_257) rfl rfl ?_
   show GO p e below T824 (mkF m 259 (la17 p0 p1 p2 p3 p4 p5 uw xl r_183 (9 : Int32) pp xx b767) [(.ref b767)]) _
   refine XS.bipush X824.here hx rfl (hb hby at_259) ?_
   show GO p e below T824 (mkF m 261 (la17 p0 p1 p2 p3 p4 p5 uw xl r_183 (9 : Int32) pp xx b767) [(.int 6), (.ref b767)]) _
   refine XS.bipush X824.here hx rfl (hb hby at_261) ?_
   show GO p e below T824 (mkF m 263 (la17 p0 p1 p2 p3 p4 p5 uw xl r_183 (9 : Int32) pp xx b767) [(.int 6), (.int 6), (.ref b767)]) _
   refine XS.aload X824.here hx rfl (hb hby at_263) rfl rfl ?_
   show GO p e below T824 (mkF m 265 (la17 p0 p1 p2 p3 p4 p5 uw xl r_183 (9 : Int32) pp xx b767) [(.ref r_183), (.int 6), (.int 6), (.ref b767)]) _
   refine XS.iload X824.here hx rfl (hb hby at_265) rfl ?_
   show GO p e below T824 (mkF m 267 (la17 p0 p1 p2 p3 p4 p5 uw xl r_183 (9 : Int32) pp xx b767) [(.int uw), (.ref r_183), (.int 6), (.int 6), (.ref b767)]) _
   refine XS.iload X824.here hx rfl (hb hby at_267) rfl ?_
   show GO p e below T824 (mkF m 269 (la17 p0 p1 p2 p3 p4 p5 uw xl r_183 (9 : Int32) pp xx b767) [(.int pp), (.int uw), (.ref r_183), (.int 6), (.int 6), (.ref b767)]) _
   refine XS.iload X824.here hx rfl (hb hby at_269) rfl ?_
   show GO p e below T824 (mkF m 271 (la17 p0 p1 p2 p3 p4 p5 uw xl r_183 (9 : Int32) pp xx b767) [(.int xx), (.int pp), (.int uw), (.ref r_183), (.int 6), (.int 6), (.ref b767)]) _
   refine XS.iloadN X824.here hx rfl (hb hby at_271) rfl ?_
   show GO p e below T824 (mkF m 272 (la17 p0 p1 p2 p3 p4 p5 uw xl r_183 (9 : Int32) pp xx b767) [(.int p3), (.int xx), (.int pp), (.int uw), (.ref r_183), (.int 6), (.int 6), (.ref b767)]) _
   refine XS.iload X824.here hx rfl (hb hby at_272) rfl ?_
   show GO p e below T824 (mkF m 274 (la17 p0 p1 p2 p3 p4 p5 uw xl r_183 (9 : Int32) pp xx b767) [(.int p4), (.int p3), (.int xx), (.int pp), (.int uw), (.ref r_183), (.int 6), (.int 6), (.ref b767)]) _
   refine XS.iload X824.here hx rfl (hb hby at_274) rfl ?_
   show GO p e below T824 (mkF m 276 (la17 p0 p1 p2 p3 p4 p5 uw xl r_183 (9 : Int32) pp xx b767) [(.int p5), (.int p4), (.int p3), (.int xx), (.int pp), (.int uw), (.ref r_183), (.int 6), (.int 6), (.ref b767)]) _
   refine st826 _ ?_
   show GO p e below T826 (mkF m 279 (la17 p0 p1 p2 p3 p4 p5 uw xl r_183 (9 : Int32) pp xx b767) [(.int cv_826), (.int 6), (.ref b767)]) _
   refine st833 _ ?_
   show GO p e below T833 (mkF m 280 (la17 p0 p1 p2 p3 p4 p5 uw xl r_183 (9 : Int32) pp xx b767) []) _
   refine XS.iload X833.here hx rfl (hb hby at_280) rfl ?_
   show GO p e below T833 (mkF m 282 (la17 p0 p1 p2 p3 p4 p5 uw xl r_183 (9 : Int32) pp xx b767) [(.int 9)]) _
   refine XS.bipush X833.here hx rfl (hb hby at_282) ?_
   show GO p e below T833 (mkF m 284 (la17 p0 p1 p2 p3 p4 p5 uw xl r_183 (9 : Int32) pp xx b767) [(.int 7), (.int 9)]) _
   refine XS.icmpNo X833.here hx rfl (hb hby at_284) rfl (tlt ((by decide) : (7 : Int32) < (9 : Int32))).2.2.2 ?_
   show GO p e below T833 (mkF m 287 (la17 p0 p1 p2 p3 p4 p5 uw xl r_183 (9 : Int32) pp xx b767) []) _
   refine XS.aload X833.here hx rfl (hb hby at_287) rfl rfl ?_
   show GO p e below T833 (mkF m 289 (la17 p0 p1 p2 p3 p4 p5 uw xl r_183 (9 : Int32) pp xx b767) [(.ref b767)]) _
   refine XS.bipush X833.here hx rfl (hb hby at_289) ?_
   show GO p e below T833 (mkF m 291 (la17 p0 p1 p2 p3 p4 p5 uw xl r_183 (9 : Int32) pp xx b767) [(.int 7), (.ref b767)]) _
   refine XS.bipush X833.here hx rfl (hb hby at_291) ?_
   show GO p e below T833 (mkF m 293 (la17 p0 p1 p2 p3 p4 p5 uw xl r_183 (9 : Int32) pp xx b767) [(.int 7), (.int 7), (.ref b767)]) _
   refine XS.aload X833.here hx rfl (hb hby at_293) rfl rfl ?_
   show GO p e below T833 (mkF m 295 (la17 p0 p1 p2 p3 p4 p5 uw xl r_183 (9 : Int32) pp xx b767) [(.ref r_183), (.int 7), (.int 7), (.ref b767)]) _
   refine XS.iload X833.here hx rfl (hb hby at_295) rfl ?_
   show GO p e below T833 (mkF m 297 (la17 p0 p1 p2 p3 p4 p5 uw xl r_183 (9 : Int32) pp xx b767) [(.int uw), (.ref r_183), (.int 7), (.int 7), (.ref b767)]) _
   refine XS.iload X833.here hx rfl (hb hby at_297) rfl ?_
   show GO p e below T833 (mkF m 299 (la17 p0 p1 p2 p3 p4 p5 uw xl r_183 (9 : Int32) pp xx b767) [(.int pp), (.int uw), (.ref r_183), (.int 7), (.int 7), (.ref b767)]) _
   refine XS.iload X833.here hx rfl (hb hby at_299) rfl ?_
   show GO p e below T833 (mkF m 301 (la17 p0 p1 p2 p3 p4 p5 uw xl r_183 (9 : Int32) pp xx b767) [(.int xx), (.int pp), (.int uw), (.ref r_183), (.int 7), (.int 7), (.ref b767)]) _
   refine XS.iloadN X833.here hx rfl (hb hby at_301) rfl ?_
   show GO p e below T833 (mkF m 302 (la17 p0 p1 p2 p3 p4 p5 uw xl r_183 (9 : Int32) pp xx b767) [(.int p3), (.int xx), (.int pp), (.int uw), (.ref r_183), (.int 7), (.int 7), (.ref b767)]) _
   refine XS.iload X833.here hx rfl (hb hby at_302) rfl ?_
   show GO p e below T833 (mkF m 304 (la17 p0 p1 p2 p3 p4 p5 uw xl r_183 (9 : Int32) pp xx b767) [(.int p4), (.int p3), (.int xx), (.int pp), (.int uw), (.ref r_183), (.int 7), (.int 7), (.ref b767)]) _
   refine XS.iload X833.here hx rfl (hb hby at_304) rfl ?_
   show GO p e below T833 (mkF m 306 (la17 p0 p1 p2 p3 p4 p5 uw xl r_183 (9 : Int32) pp xx b767) [(.int p5), (.int p4), (.int p3), (.int xx), (.int pp), (.int uw), (.ref r_183), (.int 7), (.int 7), (.ref b767)]) _
   refine st835 _ ?_
   show GO p e below T835 (mkF m 309 (la17 p0 p1 p2 p3 p4 p5 uw xl r_183 (9 : Int32) pp xx b767) [(.int cv_835), (.int 7), (.ref b767)]) _
   refine st842 _ ?_
   show GO p e below T842 (mkF m 310 (la17 p0 p1 p2 p3 p4 p5 uw xl r_183 (9 : Int32) pp xx b767) []) _
   refine XS.iload X842.here hx rfl (hb hby at_310) rfl ?_
   show GO p e below T842 (mkF m 312 (la17 p0 p1 p2 p3 p4 p5 uw xl r_183 (9 : Int32) pp xx b767) [(.int 9)]) _
   refine XS.bipush X842.here hx rfl (hb hby at_312) ?_
   show GO p e below T842 (mkF m 314 (la17 p0 p1 p2 p3 p4 p5 uw xl r_183 (9 : Int32) pp xx b767) [(.int 8), (.int 9)]) _
   refine XS.icmpNo X842.here hx rfl (hb hby at_314) rfl (tlt ((by decide) : (8 : Int32) < (9 : Int32))).2.2.2 ?_
   show GO p e below T842 (mkF m 317 (la17 p0 p1 p2 p3 p4 p5 uw xl r_183 (9 : Int32) pp xx b767) []) _
   refine XS.aload X842.here hx rfl (hb hby at_317) rfl rfl ?_
   show GO p e below T842 (mkF m 319 (la17 p0 p1 p2 p3 p4 p5 uw xl r_183 (9 : Int32) pp xx b767) [(.ref b767)]) _
   refine XS.bipush X842.here hx rfl (hb hby at_319) ?_
   show GO p e below T842 (mkF m 321 (la17 p0 p1 p2 p3 p4 p5 uw xl r_183 (9 : Int32) pp xx b767) [(.int 8), (.ref b767)]) _
   refine XS.bipush X842.here hx rfl (hb hby at_321) ?_
   show GO p e below T842 (mkF m 323 (la17 p0 p1 p2 p3 p4 p5 uw xl r_183 (9 : Int32) pp xx b767) [(.int 8), (.int 8), (.ref b767)]) _
   refine XS.aload X842.here hx rfl (hb hby at_323) rfl rfl ?_
   show GO p e below T842 (mkF m 325 (la17 p0 p1 p2 p3 p4 p5 uw xl r_183 (9 : Int32) pp xx b767) [(.ref r_183), (.int 8), (.int 8), (.ref b767)]) _
   refine XS.iload X842.here hx rfl (hb hby at_325) rfl ?_
   show GO p e below T842 (mkF m 327 (la17 p0 p1 p2 p3 p4 p5 uw xl r_183 (9 : Int32) pp xx b767) [(.int uw), (.ref r_183), (.int 8), (.int 8), (.ref b767)]) _
   refine XS.iload X842.here hx rfl (hb hby at_327) rfl ?_
   show GO p e below T842 (mkF m 329 (la17 p0 p1 p2 p3 p4 p5 uw xl r_183 (9 : Int32) pp xx b767) [(.int pp), (.int uw), (.ref r_183), (.int 8), (.int 8), (.ref b767)]) _
   refine XS.iload X842.here hx rfl (hb hby at_329) rfl ?_
   show GO p e below T842 (mkF m 331 (la17 p0 p1 p2 p3 p4 p5 uw xl r_183 (9 : Int32) pp xx b767) [(.int xx), (.int pp), (.int uw), (.ref r_183), (.int 8), (.int 8), (.ref b767)]) _
   refine XS.iloadN X842.here hx rfl (hb hby at_331) rfl ?_
   show GO p e below T842 (mkF m 332 (la17 p0 p1 p2 p3 p4 p5 uw xl r_183 (9 : Int32) pp xx b767) [(.int p3), (.int xx), (.int pp), (.int uw), (.ref r_183), (.int 8), (.int 8), (.ref b767)]) _
   refine XS.iload X842.here hx rfl (hb hby at_332) rfl ?_
   show GO p e below T842 (mkF m 334 (la17 p0 p1 p2 p3 p4 p5 uw xl r_183 (9 : Int32) pp xx b767) [(.int p4), (.int p3), (.int xx), (.int pp), (.int uw), (.ref r_183), (.int 8), (.int 8), (.ref b767)]) _
   refine XS.iload X842.here hx rfl (hb hby at_334) rfl ?_
   show GO p e below T842 (mkF m 336 (la17 p0 p1 p2 p3 p4 p5 uw xl r_183 (9 : Int32) pp xx b767) [(.int p5), (.int p4), (.int p3), (.int xx), (.int pp), (.int uw), (.ref r_183), (.int 8), (.int 8), (.ref b767)]) _
   refine st844 _ ?_
   show GO p e below T844 (mkF m 339 (la17 p0 p1 p2 p3 p4 p5 uw xl r_183 (9 : Int32) pp xx b767) [(.int cv_844), (.int 8), (.ref b767)]) _
   refine st851 _ ?_
   show GO p e below T851 (mkF m 340 (la17 p0 p1 p2 p3 p4 p5 uw xl r_183 (9 : Int32) pp xx b767) []) _
   refine XS.iload X851.here hx rfl (hb hby at_340) rfl ?_
   show GO p e below T851 (mkF m 342 (la17 p0 p1 p2 p3 p4 p5 uw xl r_183 (9 : Int32) pp xx b767) [(.int 9)]) _
   refine XS.bipush X851.here hx rfl (hb hby at_342) ?_
   show GO p e below T851 (mkF m 344 (la17 p0 p1 p2 p3 p4 p5 uw xl r_183 (9 : Int32) pp xx b767) [(.int 9), (.int 9)]) _
   refine XS.icmpYes X851.here hx rfl (pc0 := 344) (pc' := 370) rfl (hb hby at_344) rfl (flt ((by decide) : ¬ ((9 : Int32) < (9 : Int32)))).2.2.2 (by decide) (by decide) ?_
   show GO p e below T851 (mkF m 370 (la17 p0 p1 p2 p3 p4 p5 uw xl r_183 (9 : Int32) pp xx b767) []) _
   refine st854 _ ?_
   show GO p e below T854 (mkF m 373 (la17 p0 p1 p2 p3 p4 p5 uw xl r_183 (9 : Int32) pp xx b767) [(.ref b854)]) _
   refine XS.dup X854.here hx rfl (hb hby at_373) rfl rfl ?_
   show GO p e below T854 (mkF m 374 (la17 p0 p1 p2 p3 p4 p5 uw xl r_183 (9 : Int32) pp xx b767) [(.ref b854), (.ref b854)]) _
   refine XS.aload X854.here hx rfl (hb hby at_374) rfl rfl ?_
   show GO p e below T854 (mkF m 376 (la17 p0 p1 p2 p3 p4 p5 uw xl r_183 (9 : Int32) pp xx b767) [(.ref b767), (.ref b854), (.ref b854)]) _
   refine st861.trans ?_
   show GO p e below T861 (mkF m 379 (la17 p0 p1 p2 p3 p4 p5 uw xl r_183 (9 : Int32) pp xx b767) [(.ref b854)]) _
   refine XS.astore X861.here hx rfl (hb hby at_379) rfl rfl (l' := (la18 p0 p1 p2 p3 p4 p5 uw xl r_183 (9 : Int32) pp xx b767 b854)) rfl ?_
   show GO p e below T861 (mkF m 381 (la18 p0 p1 p2 p3 p4 p5 uw xl r_183 (9 : Int32) pp xx b767 b854) []) _
   refine XS.aload X861.here hx rfl (hb hby at_381) rfl rfl ?_
   show GO p e below T861 (mkF m 383 (la18 p0 p1 p2 p3 p4 p5 uw xl r_183 (9 : Int32) pp xx b767 b854) [(.ref b854)]) _
   refine st865 _ ?_
   show GO p e below T865 (mkF m 386 (la18 p0 p1 p2 p3 p4 p5 uw xl r_183 (9 : Int32) pp xx b767 b854) [(own_pick ([cv_769, cv_780, cv_790, cv_799, cv_808, cv_817, cv_826, cv_835, cv_844] : List Int32) u0 u1 u2 u3)]) _
   refine XS.aload X865.here hx rfl (hb hby at_386) rfl rfl ?_
   show GO p e below T865 (mkF m 388 (la18 p0 p1 p2 p3 p4 p5 uw xl r_183 (9 : Int32) pp xx b767 b854) [(.ref b854), (own_pick ([cv_769, cv_780, cv_790, cv_799, cv_808, cv_817, cv_826, cv_835, cv_844] : List Int32) u0 u1 u2 u3)]) _
   refine st869.trans ?_
   show GO p e below T869 (mkF m 391 (la18 p0 p1 p2 p3 p4 p5 uw xl r_183 (9 : Int32) pp xx b767 b854) [(own_pick ([cv_769, cv_780, cv_790, cv_799, cv_808, cv_817, cv_826, cv_835, cv_844] : List Int32) u0 u1 u2 u3), (own_pick ([cv_769, cv_780, cv_790, cv_799, cv_808, cv_817, cv_826, cv_835, cv_844] : List Int32) u0 u1 u2 u3)]) _
   refine Jvm.RoadKit.acmp (g := (mkF m 391 (la18 p0 p1 p2 p3 p4 p5 uw xl r_183 (9 : Int32) pp xx b767 b854) [(own_pick ([cv_769, cv_780, cv_790, cv_799, cv_808, cv_817, cv_826, cv_835, cv_844] : List Int32) u0 u1 u2 u3), (own_pick ([cv_769, cv_780, cv_790, cv_799, cv_808, cv_817, cv_826, cv_835, cv_844] : List Int32) u0 u1 u2 u3)])) X869 hx rfl (own_pickref _ _ _ _ _) (own_pickref _ _ _ _ _) (pc0 := 391) (pc' := 394) (same := true) rfl (hb hby at_391) rfl (decide_eq_true rfl) (by decide) (by decide) ?_
   show GO p e below T869 (mkF m 394 (la18 p0 p1 p2 p3 p4 p5 uw xl r_183 (9 : Int32) pp xx b767 b854) []) _
   refine XS.iconst X869.here hx rfl (hb hby at_394) ?_
   show GO p e below T869 (mkF m 395 (la18 p0 p1 p2 p3 p4 p5 uw xl r_183 (9 : Int32) pp xx b767 b854) [(.int 1)]) _
   refine XS.goto X869.here hx rfl (pc0 := 395) (pc' := 399) rfl (hb hby at_395) (by decide) (by decide) ?_
   show GO p e below T869 (mkF m 399 (la18 p0 p1 p2 p3 p4 p5 uw xl r_183 (9 : Int32) pp xx b767 b854) [(.int 1)]) _
   exact retN X869 hx (t := .boolean) Bd.returns (by simp) (hb hby at_399) hr
  ·show Qrm0 Z p0 p1 p2 p3 p4 p5 z0 f0 va u0 u1 u2 u3 w0 w1 w2 w3 y0 y1 y2 y3 kV b0 b1 b2 b3 h0 n0 _ T869.heap _
   rw [e869]
   exact ⟨rfl, N869⟩
  ·show CHr Z EL1 s.vm s.heap T869.vm T869.heap
   rw [hh, e869]
   exact CE
 ·obtain ⟨T876, h876, k876, X876, e876, E876, A876, st876⟩ := newP X186 hx hZ183 (wd hw 13 rfl) e186 (g := (mkF m 85 (la16 p0 p1 p2 p3 p4 p5 uw xl r_183 (10 : Int32) pp xx) [(.int 10)])) rfl (hb hby at_85) rfl (by decide) (cap := 10) (by decide) (by decide) (by decide) (by decide)
  obtain ⟨b876, g876⟩ : ∃ z, z = h183.size := ⟨_, rfl⟩
  rw [← g876] at A876 st876
  have C877 : CHr Z EL1 s.vm h0 T183.vm h876 := C184.trans (CHr.ext E876 C184.1)
  have sz876 : h183.size ≤ h876.size := E876.1
  have nz876 := Nat.le_trans nz183 sz876
  have lt876 := ltA A876.lt
  have V876 : Arv Z h876 b876 k876 .char (10 : Int32) [(.int 0), (.int 0), (.int 0), (.int 0), (.int 0), (.int 0), (.int 0), (.int 0), (.int 0), (.int 0)] (.int 0) := (Arv.new A876 (by decide)).pad (pad_rep [] (.int 0) 10)
  -- pc 111: KindNamedPinLaw.at by rm_at
  have f879 : Old Z n0 h876 := ((O0.keep K183 all0).ext E876)
  have f880 : Exa Z h876 r_183 kS0 := (p183_0.ext E876)
  have f881 : Fld Z h876 r_183 kS0 "coder" "B" (.int 0) := (p183_1.ext E876)
  have f882 : Fld Z h876 r_183 kS0 "value" "[B" (.ref t_183) := (p183_2.ext E876)
  have f883 : Arv Z h876 t_183 k_183 .byte N_183 vs_183 (.int 0) := (p183_3.ext E876)
  obtain ⟨_, _, ⟨T878, L878, k878, n878⟩, -, X878, ⟨Lc878, hQ878, l878, y878, z878⟩, st878⟩ := Jvm.LawKit.callS X876 hx (y := (⟨kS1, "at", kS3⟩ : MethodName)) hown183 (mvT hZ183 (wd hw 14 rfl)) (mvT hZ183 (wd hw 15 rfl)) (mvT hZ183 (wd hw 2 rfl)) (mvT hZ183 (wd hw 16 rfl)) (by decide) (backOf (W := 2) (rm_at l Z a0 hw [] (0 : Int32) uw pp xx p3 p4 p5 r_183 t_183 k_183 N_183 vs_183 cs_183 z0 f0 h876 n0 nz876 f879 f880 f881 f882 f883 (by first | assumption | decide | omega) (by first | assumption | decide | omega) (by first | assumption | decide | omega) (by first | assumption | decide | omega) r183_0 r183_1 r183_2 r183_3 (by decide) rxx qxx) hZ183 (wd hw 16 rfl) (wd hw 2 rfl) (by decide) (by decide)) (g := (mkF m 111 (la17 p0 p1 p2 p3 p4 p5 uw xl r_183 (10 : Int32) pp xx b876) [(.int p5), (.int p4), (.int p3), (.int xx), (.int pp), (.int uw), (.ref r_183), (.int 0), (.int 0), (.ref b876)])) rfl (by rw [hml]; rfl) (argsL := [(.int 0), (.ref r_183), (.int uw), (.int pp), (.int xx), (.int p3), (.int p4), (.int p5)]) (rest := [(.int 0), (.ref b876)]) (lenOf pd_9 rfl) rfl (wz rfl) (hb hby at_111) (fun _ _ => ⟨rfl, e876, (by decide : 3 + 0 ≤ _), (by decide : 50 + 0 ≤ _)⟩)
  dsimp only [Pt.U, Pt.locs, Pt.cells, Pt.slots] at X878 l878 y878 z878 st878 hQ878
  rw [l878, y878, z878] at X878
  obtain ⟨cv_878, rfl, N878q, e878, r878_0, r878_1⟩ := hQ878
  have N878 := Fr.app N186 N878q
  obtain ⟨cl884, Ar884, q884, S884, M884, H884, G884⟩ := id V876
  have hin884 : ¬ ((0 : Int32) < 0 ∨ cl884.slots.size ≤ ((0 : Int32)).toNatClampNeg) := inb_of S884 ⟨by decide, by decide⟩
  obtain ⟨T885, h885, X885, e885, W885, st885⟩ := stC X878 hx hZ183 e878 Ar884 (j := (0 : Int32)) hin884 (g := (mkF m 114 (la17 p0 p1 p2 p3 p4 p5 uw xl r_183 (10 : Int32) pp xx b876) [(.int cv_878), (.int 0), (.ref b876)])) rfl rfl (hb hby at_114)
  have ge886 : n0 ≤ b876 := by omega
  have N885 := Fr.snoc X885 N878 ge886
  have ne887 : b876 ≠ r_183 := Ne.symm (Exa.neArv f880 V876 (wd hw 6 rfl))
  have C888 : CHr Z EL1 s.vm h0 T183.vm h885 := C877.trans (CHr.wr W885 (Safe.arv hZ183.alike V876 (by decide)) C877.1)
  have sz885 : h876.size ≤ h885.size := Nat.le_of_eq W885.size.symm
  have nz885 := Nat.le_trans nz876 sz885
  have V885 : Arv Z h885 b876 k876 .char (10 : Int32) [(.int (nar .char cv_878)), (.int 0), (.int 0), (.int 0), (.int 0), (.int 0), (.int 0), (.int 0), (.int 0), (.int 0)] (.int 0) := Arv.set Ar884 q884 S884 M884 H884 G884 (fits_nar_char _) W885 0 rfl (Nat.le_of_ble_eq_true rfl)
  -- pc 138: KindNamedPinLaw.at by rm_at
  have f890 : Old Z n0 h885 := (f879.wr W885 ge886)
  have f891 : Exa Z h885 r_183 kS0 := (f880.wr W885)
  have f892 : Fld Z h885 r_183 kS0 "coder" "B" (.int 0) := (f881.other W885 (Or.inl (Ne.symm ne887)))
  have f893 : Fld Z h885 r_183 kS0 "value" "[B" (.ref t_183) := (f882.other W885 (Or.inl (Ne.symm ne887)))
  have ne894 : t_183 ≠ b876 := neN (by omega)
  have f895 : Arv Z h885 t_183 k_183 .byte N_183 vs_183 (.int 0) := (f883.other W885 ne894)
  obtain ⟨_, _, ⟨T889, L889, k889, n889⟩, -, X889, ⟨Lc889, hQ889, l889, y889, z889⟩, st889⟩ := Jvm.LawKit.callS X885 hx (y := (⟨kS1, "at", kS3⟩ : MethodName)) hown183 (mvT hZ183 (wd hw 14 rfl)) (mvT hZ183 (wd hw 15 rfl)) (mvT hZ183 (wd hw 2 rfl)) (mvT hZ183 (wd hw 16 rfl)) (by decide) (backOf (W := 2) (rm_at l Z a0 hw [] (1 : Int32) uw pp xx p3 p4 p5 r_183 t_183 k_183 N_183 vs_183 cs_183 z0 f0 h885 n0 nz885 f890 f891 f892 f893 f895 (by first | assumption | decide | omega) (by first | assumption | decide | omega) (by first | assumption | decide | omega) (by first | assumption | decide | omega) r183_0 r183_1 r183_2 r183_3 (by decide) rxx qxx) hZ183 (wd hw 16 rfl) (wd hw 2 rfl) (by decide) (by decide)) (g := (mkF m 138 (la17 p0 p1 p2 p3 p4 p5 uw xl r_183 (10 : Int32) pp xx b876) [(.int p5), (.int p4), (.int p3), (.int xx), (.int pp), (.int uw), (.ref r_183), (.int 1), (.int 1), (.ref b876)])) rfl (by rw [hml]; rfl) (argsL := [(.int 1), (.ref r_183), (.int uw), (.int pp), (.int xx), (.int p3), (.int p4), (.int p5)]) (rest := [(.int 1), (.ref b876)]) (lenOf pd_9 rfl) rfl (wz rfl) (hb hby at_138) (fun _ _ => ⟨rfl, e885, (by decide : 3 + 0 ≤ _), (by decide : 50 + 0 ≤ _)⟩)
  dsimp only [Pt.U, Pt.locs, Pt.cells, Pt.slots] at X889 l889 y889 z889 st889 hQ889
  rw [l889, y889, z889] at X889
  obtain ⟨cv_889, rfl, N889q, e889, r889_0, r889_1⟩ := hQ889
  have N889 := Fr.app N885 N889q
  obtain ⟨cl896, Ar896, q896, S896, M896, H896, G896⟩ := id V885
  have hin896 : ¬ ((1 : Int32) < 0 ∨ cl896.slots.size ≤ ((1 : Int32)).toNatClampNeg) := inb_of S896 ⟨by decide, by decide⟩
  obtain ⟨T897, h897, X897, e897, W897, st897⟩ := stC X889 hx hZ183 e889 Ar896 (j := (1 : Int32)) hin896 (g := (mkF m 141 (la17 p0 p1 p2 p3 p4 p5 uw xl r_183 (10 : Int32) pp xx b876) [(.int cv_889), (.int 1), (.ref b876)])) rfl rfl (hb hby at_141)
  have N897 := Fr.snoc X897 N889 ge886
  have C898 : CHr Z EL1 s.vm h0 T183.vm h897 := C888.trans (CHr.wr W897 (Safe.arv hZ183.alike V885 (by decide)) C888.1)
  have sz897 : h885.size ≤ h897.size := Nat.le_of_eq W897.size.symm
  have nz897 := Nat.le_trans nz885 sz897
  have V897 : Arv Z h897 b876 k876 .char (10 : Int32) [(.int (nar .char cv_878)), (.int (nar .char cv_889)), (.int 0), (.int 0), (.int 0), (.int 0), (.int 0), (.int 0), (.int 0), (.int 0)] (.int 0) := Arv.set Ar896 q896 S896 M896 H896 G896 (fits_nar_char _) W897 1 rfl (Nat.le_of_ble_eq_true rfl)
  -- pc 165: KindNamedPinLaw.at by rm_at
  have f900 : Old Z n0 h897 := (f890.wr W897 ge886)
  have f901 : Exa Z h897 r_183 kS0 := (f891.wr W897)
  have f902 : Fld Z h897 r_183 kS0 "coder" "B" (.int 0) := (f892.other W897 (Or.inl (Ne.symm ne887)))
  have f903 : Fld Z h897 r_183 kS0 "value" "[B" (.ref t_183) := (f893.other W897 (Or.inl (Ne.symm ne887)))
  have f904 : Arv Z h897 t_183 k_183 .byte N_183 vs_183 (.int 0) := (f895.other W897 ne894)
  obtain ⟨_, _, ⟨T899, L899, k899, n899⟩, -, X899, ⟨Lc899, hQ899, l899, y899, z899⟩, st899⟩ := Jvm.LawKit.callS X897 hx (y := (⟨kS1, "at", kS3⟩ : MethodName)) hown183 (mvT hZ183 (wd hw 14 rfl)) (mvT hZ183 (wd hw 15 rfl)) (mvT hZ183 (wd hw 2 rfl)) (mvT hZ183 (wd hw 16 rfl)) (by decide) (backOf (W := 2) (rm_at l Z a0 hw [] (2 : Int32) uw pp xx p3 p4 p5 r_183 t_183 k_183 N_183 vs_183 cs_183 z0 f0 h897 n0 nz897 f900 f901 f902 f903 f904 (by first | assumption | decide | omega) (by first | assumption | decide | omega) (by first | assumption | decide | omega) (by first | assumption | decide | omega) r183_0 r183_1 r183_2 r183_3 (by decide) rxx qxx) hZ183 (wd hw 16 rfl) (wd hw 2 rfl) (by decide) (by decide)) (g := (mkF m 165 (la17 p0 p1 p2 p3 p4 p5 uw xl r_183 (10 : Int32) pp xx b876) [(.int p5), (.int p4), (.int p3), (.int xx), (.int pp), (.int uw), (.ref r_183), (.int 2), (.int 2), (.ref b876)])) rfl (by rw [hml]; rfl) (argsL := [(.int 2), (.ref r_183), (.int uw), (.int pp), (.int xx), (.int p3), (.int p4), (.int p5)]) (rest := [(.int 2), (.ref b876)]) (lenOf pd_9 rfl) rfl (wz rfl) (hb hby at_165) (fun _ _ => ⟨rfl, e897, (by decide : 3 + 0 ≤ _), (by decide : 50 + 0 ≤ _)⟩)
  dsimp only [Pt.U, Pt.locs, Pt.cells, Pt.slots] at X899 l899 y899 z899 st899 hQ899
  rw [l899, y899, z899] at X899
  obtain ⟨cv_899, rfl, N899q, e899, r899_0, r899_1⟩ := hQ899
  have N899 := Fr.app N897 N899q
  obtain ⟨cl905, Ar905, q905, S905, M905, H905, G905⟩ := id V897
  have hin905 : ¬ ((2 : Int32) < 0 ∨ cl905.slots.size ≤ ((2 : Int32)).toNatClampNeg) := inb_of S905 ⟨by decide, by decide⟩
  obtain ⟨T906, h906, X906, e906, W906, st906⟩ := stC X899 hx hZ183 e899 Ar905 (j := (2 : Int32)) hin905 (g := (mkF m 168 (la17 p0 p1 p2 p3 p4 p5 uw xl r_183 (10 : Int32) pp xx b876) [(.int cv_899), (.int 2), (.ref b876)])) rfl rfl (hb hby at_168)
  have N906 := Fr.snoc X906 N899 ge886
  have C907 : CHr Z EL1 s.vm h0 T183.vm h906 := C898.trans (CHr.wr W906 (Safe.arv hZ183.alike V897 (by decide)) C898.1)
  have sz906 : h897.size ≤ h906.size := Nat.le_of_eq W906.size.symm
  have nz906 := Nat.le_trans nz897 sz906
  have V906 : Arv Z h906 b876 k876 .char (10 : Int32) [(.int (nar .char cv_878)), (.int (nar .char cv_889)), (.int (nar .char cv_899)), (.int 0), (.int 0), (.int 0), (.int 0), (.int 0), (.int 0), (.int 0)] (.int 0) := Arv.set Ar905 q905 S905 M905 H905 G905 (fits_nar_char _) W906 2 rfl (Nat.le_of_ble_eq_true rfl)
  -- pc 192: KindNamedPinLaw.at by rm_at
  have f909 : Old Z n0 h906 := (f900.wr W906 ge886)
  have f910 : Exa Z h906 r_183 kS0 := (f901.wr W906)
  have f911 : Fld Z h906 r_183 kS0 "coder" "B" (.int 0) := (f902.other W906 (Or.inl (Ne.symm ne887)))
  have f912 : Fld Z h906 r_183 kS0 "value" "[B" (.ref t_183) := (f903.other W906 (Or.inl (Ne.symm ne887)))
  have f913 : Arv Z h906 t_183 k_183 .byte N_183 vs_183 (.int 0) := (f904.other W906 ne894)
  obtain ⟨_, _, ⟨T908, L908, k908, n908⟩, -, X908, ⟨Lc908, hQ908, l908, y908, z908⟩, st908⟩ := Jvm.LawKit.callS X906 hx (y := (⟨kS1, "at", kS3⟩ : MethodName)) hown183 (mvT hZ183 (wd hw 14 rfl)) (mvT hZ183 (wd hw 15 rfl)) (mvT hZ183 (wd hw 2 rfl)) (mvT hZ183 (wd hw 16 rfl)) (by decide) (backOf (W := 2) (rm_at l Z a0 hw [] (3 : Int32) uw pp xx p3 p4 p5 r_183 t_183 k_183 N_183 vs_183 cs_183 z0 f0 h906 n0 nz906 f909 f910 f911 f912 f913 (by first | assumption | decide | omega) (by first | assumption | decide | omega) (by first | assumption | decide | omega) (by first | assumption | decide | omega) r183_0 r183_1 r183_2 r183_3 (by decide) rxx qxx) hZ183 (wd hw 16 rfl) (wd hw 2 rfl) (by decide) (by decide)) (g := (mkF m 192 (la17 p0 p1 p2 p3 p4 p5 uw xl r_183 (10 : Int32) pp xx b876) [(.int p5), (.int p4), (.int p3), (.int xx), (.int pp), (.int uw), (.ref r_183), (.int 3), (.int 3), (.ref b876)])) rfl (by rw [hml]; rfl) (argsL := [(.int 3), (.ref r_183), (.int uw), (.int pp), (.int xx), (.int p3), (.int p4), (.int p5)]) (rest := [(.int 3), (.ref b876)]) (lenOf pd_9 rfl) rfl (wz rfl) (hb hby at_192) (fun _ _ => ⟨rfl, e906, (by decide : 3 + 0 ≤ _), (by decide : 50 + 0 ≤ _)⟩)
  dsimp only [Pt.U, Pt.locs, Pt.cells, Pt.slots] at X908 l908 y908 z908 st908 hQ908
  rw [l908, y908, z908] at X908
  obtain ⟨cv_908, rfl, N908q, e908, r908_0, r908_1⟩ := hQ908
  have N908 := Fr.app N906 N908q
  obtain ⟨cl914, Ar914, q914, S914, M914, H914, G914⟩ := id V906
  have hin914 : ¬ ((3 : Int32) < 0 ∨ cl914.slots.size ≤ ((3 : Int32)).toNatClampNeg) := inb_of S914 ⟨by decide, by decide⟩
  obtain ⟨T915, h915, X915, e915, W915, st915⟩ := stC X908 hx hZ183 e908 Ar914 (j := (3 : Int32)) hin914 (g := (mkF m 195 (la17 p0 p1 p2 p3 p4 p5 uw xl r_183 (10 : Int32) pp xx b876) [(.int cv_908), (.int 3), (.ref b876)])) rfl rfl (hb hby at_195)
  have N915 := Fr.snoc X915 N908 ge886
  have C916 : CHr Z EL1 s.vm h0 T183.vm h915 := C907.trans (CHr.wr W915 (Safe.arv hZ183.alike V906 (by decide)) C907.1)
  have sz915 : h906.size ≤ h915.size := Nat.le_of_eq W915.size.symm
  have nz915 := Nat.le_trans nz906 sz915
  have V915 : Arv Z h915 b876 k876 .char (10 : Int32) [(.int (nar .char cv_878)), (.int (nar .char cv_889)), (.int (nar .char cv_899)), (.int (nar .char cv_908)), (.int 0), (.int 0), (.int 0), (.int 0), (.int 0), (.int 0)] (.int 0) := Arv.set Ar914 q914 S914 M914 H914 G914 (fits_nar_char _) W915 3 rfl (Nat.le_of_ble_eq_true rfl)
  -- pc 219: KindNamedPinLaw.at by rm_at
  have f918 : Old Z n0 h915 := (f909.wr W915 ge886)
  have f919 : Exa Z h915 r_183 kS0 := (f910.wr W915)
  have f920 : Fld Z h915 r_183 kS0 "coder" "B" (.int 0) := (f911.other W915 (Or.inl (Ne.symm ne887)))
  have f921 : Fld Z h915 r_183 kS0 "value" "[B" (.ref t_183) := (f912.other W915 (Or.inl (Ne.symm ne887)))
  have f922 : Arv Z h915 t_183 k_183 .byte N_183 vs_183 (.int 0) := (f913.other W915 ne894)
  obtain ⟨_, _, ⟨T917, L917, k917, n917⟩, -, X917, ⟨Lc917, hQ917, l917, y917, z917⟩, st917⟩ := Jvm.LawKit.callS X915 hx (y := (⟨kS1, "at", kS3⟩ : MethodName)) hown183 (mvT hZ183 (wd hw 14 rfl)) (mvT hZ183 (wd hw 15 rfl)) (mvT hZ183 (wd hw 2 rfl)) (mvT hZ183 (wd hw 16 rfl)) (by decide) (backOf (W := 2) (rm_at l Z a0 hw [] (4 : Int32) uw pp xx p3 p4 p5 r_183 t_183 k_183 N_183 vs_183 cs_183 z0 f0 h915 n0 nz915 f918 f919 f920 f921 f922 (by first | assumption | decide | omega) (by first | assumption | decide | omega) (by first | assumption | decide | omega) (by first | assumption | decide | omega) r183_0 r183_1 r183_2 r183_3 (by decide) rxx qxx) hZ183 (wd hw 16 rfl) (wd hw 2 rfl) (by decide) (by decide)) (g := (mkF m 219 (la17 p0 p1 p2 p3 p4 p5 uw xl r_183 (10 : Int32) pp xx b876) [(.int p5), (.int p4), (.int p3), (.int xx), (.int pp), (.int uw), (.ref r_183), (.int 4), (.int 4), (.ref b876)])) rfl (by rw [hml]; rfl) (argsL := [(.int 4), (.ref r_183), (.int uw), (.int pp), (.int xx), (.int p3), (.int p4), (.int p5)]) (rest := [(.int 4), (.ref b876)]) (lenOf pd_9 rfl) rfl (wz rfl) (hb hby at_219) (fun _ _ => ⟨rfl, e915, (by decide : 3 + 0 ≤ _), (by decide : 50 + 0 ≤ _)⟩)
  dsimp only [Pt.U, Pt.locs, Pt.cells, Pt.slots] at X917 l917 y917 z917 st917 hQ917
  rw [l917, y917, z917] at X917
  obtain ⟨cv_917, rfl, N917q, e917, r917_0, r917_1⟩ := hQ917
  have N917 := Fr.app N915 N917q
  obtain ⟨cl923, Ar923, q923, S923, M923, H923, G923⟩ := id V915
  have hin923 : ¬ ((4 : Int32) < 0 ∨ cl923.slots.size ≤ ((4 : Int32)).toNatClampNeg) := inb_of S923 ⟨by decide, by decide⟩
  obtain ⟨T924, h924, X924, e924, W924, st924⟩ := stC X917 hx hZ183 e917 Ar923 (j := (4 : Int32)) hin923 (g := (mkF m 222 (la17 p0 p1 p2 p3 p4 p5 uw xl r_183 (10 : Int32) pp xx b876) [(.int cv_917), (.int 4), (.ref b876)])) rfl rfl (hb hby at_222)
  have N924 := Fr.snoc X924 N917 ge886
  have C925 : CHr Z EL1 s.vm h0 T183.vm h924 := C916.trans (CHr.wr W924 (Safe.arv hZ183.alike V915 (by decide)) C916.1)
  have sz924 : h915.size ≤ h924.size := Nat.le_of_eq W924.size.symm
  have nz924 := Nat.le_trans nz915 sz924
  have V924 : Arv Z h924 b876 k876 .char (10 : Int32) [(.int (nar .char cv_878)), (.int (nar .char cv_889)), (.int (nar .char cv_899)), (.int (nar .char cv_908)), (.int (nar .char cv_917)), (.int 0), (.int 0), (.int 0), (.int 0), (.int 0)] (.int 0) := Arv.set Ar923 q923 S923 M923 H923 G923 (fits_nar_char _) W924 4 rfl (Nat.le_of_ble_eq_true rfl)
  -- pc 246: KindNamedPinLaw.at by rm_at
  have f927 : Old Z n0 h924 := (f918.wr W924 ge886)
  have f928 : Exa Z h924 r_183 kS0 := (f919.wr W924)
  have f929 : Fld Z h924 r_183 kS0 "coder" "B" (.int 0) := (f920.other W924 (Or.inl (Ne.symm ne887)))
  have f930 : Fld Z h924 r_183 kS0 "value" "[B" (.ref t_183) := (f921.other W924 (Or.inl (Ne.symm ne887)))
  have f931 : Arv Z h924 t_183 k_183 .byte N_183 vs_183 (.int 0) := (f922.other W924 ne894)
  obtain ⟨_, _, ⟨T926, L926, k926, n926⟩, -, X926, ⟨Lc926, hQ926, l926, y926, z926⟩, st926⟩ := Jvm.LawKit.callS X924 hx (y := (⟨kS1, "at", kS3⟩ : MethodName)) hown183 (mvT hZ183 (wd hw 14 rfl)) (mvT hZ183 (wd hw 15 rfl)) (mvT hZ183 (wd hw 2 rfl)) (mvT hZ183 (wd hw 16 rfl)) (by decide) (backOf (W := 2) (rm_at l Z a0 hw [] (5 : Int32) uw pp xx p3 p4 p5 r_183 t_183 k_183 N_183 vs_183 cs_183 z0 f0 h924 n0 nz924 f927 f928 f929 f930 f931 (by first | assumption | decide | omega) (by first | assumption | decide | omega) (by first | assumption | decide | omega) (by first | assumption | decide | omega) r183_0 r183_1 r183_2 r183_3 (by decide) rxx qxx) hZ183 (wd hw 16 rfl) (wd hw 2 rfl) (by decide) (by decide)) (g := (mkF m 246 (la17 p0 p1 p2 p3 p4 p5 uw xl r_183 (10 : Int32) pp xx b876) [(.int p5), (.int p4), (.int p3), (.int xx), (.int pp), (.int uw), (.ref r_183), (.int 5), (.int 5), (.ref b876)])) rfl (by rw [hml]; rfl) (argsL := [(.int 5), (.ref r_183), (.int uw), (.int pp), (.int xx), (.int p3), (.int p4), (.int p5)]) (rest := [(.int 5), (.ref b876)]) (lenOf pd_9 rfl) rfl (wz rfl) (hb hby at_246) (fun _ _ => ⟨rfl, e924, (by decide : 3 + 0 ≤ _), (by decide : 50 + 0 ≤ _)⟩)
  dsimp only [Pt.U, Pt.locs, Pt.cells, Pt.slots] at X926 l926 y926 z926 st926 hQ926
  rw [l926, y926, z926] at X926
  obtain ⟨cv_926, rfl, N926q, e926, r926_0, r926_1⟩ := hQ926
  have N926 := Fr.app N924 N926q
  obtain ⟨cl932, Ar932, q932, S932, M932, H932, G932⟩ := id V924
  have hin932 : ¬ ((5 : Int32) < 0 ∨ cl932.slots.size ≤ ((5 : Int32)).toNatClampNeg) := inb_of S932 ⟨by decide, by decide⟩
  obtain ⟨T933, h933, X933, e933, W933, st933⟩ := stC X926 hx hZ183 e926 Ar932 (j := (5 : Int32)) hin932 (g := (mkF m 249 (la17 p0 p1 p2 p3 p4 p5 uw xl r_183 (10 : Int32) pp xx b876) [(.int cv_926), (.int 5), (.ref b876)])) rfl rfl (hb hby at_249)
  have N933 := Fr.snoc X933 N926 ge886
  have C934 : CHr Z EL1 s.vm h0 T183.vm h933 := C925.trans (CHr.wr W933 (Safe.arv hZ183.alike V924 (by decide)) C925.1)
  have sz933 : h924.size ≤ h933.size := Nat.le_of_eq W933.size.symm
  have nz933 := Nat.le_trans nz924 sz933
  have V933 : Arv Z h933 b876 k876 .char (10 : Int32) [(.int (nar .char cv_878)), (.int (nar .char cv_889)), (.int (nar .char cv_899)), (.int (nar .char cv_908)), (.int (nar .char cv_917)), (.int (nar .char cv_926)), (.int 0), (.int 0), (.int 0), (.int 0)] (.int 0) := Arv.set Ar932 q932 S932 M932 H932 G932 (fits_nar_char _) W933 5 rfl (Nat.le_of_ble_eq_true rfl)
  -- pc 276: KindNamedPinLaw.at by rm_at
  have f936 : Old Z n0 h933 := (f927.wr W933 ge886)
  have f937 : Exa Z h933 r_183 kS0 := (f928.wr W933)
  have f938 : Fld Z h933 r_183 kS0 "coder" "B" (.int 0) := (f929.other W933 (Or.inl (Ne.symm ne887)))
  have f939 : Fld Z h933 r_183 kS0 "value" "[B" (.ref t_183) := (f930.other W933 (Or.inl (Ne.symm ne887)))
  have f940 : Arv Z h933 t_183 k_183 .byte N_183 vs_183 (.int 0) := (f931.other W933 ne894)
  obtain ⟨_, _, ⟨T935, L935, k935, n935⟩, -, X935, ⟨Lc935, hQ935, l935, y935, z935⟩, st935⟩ := Jvm.LawKit.callS X933 hx (y := (⟨kS1, "at", kS3⟩ : MethodName)) hown183 (mvT hZ183 (wd hw 14 rfl)) (mvT hZ183 (wd hw 15 rfl)) (mvT hZ183 (wd hw 2 rfl)) (mvT hZ183 (wd hw 16 rfl)) (by decide) (backOf (W := 2) (rm_at l Z a0 hw [] (6 : Int32) uw pp xx p3 p4 p5 r_183 t_183 k_183 N_183 vs_183 cs_183 z0 f0 h933 n0 nz933 f936 f937 f938 f939 f940 (by first | assumption | decide | omega) (by first | assumption | decide | omega) (by first | assumption | decide | omega) (by first | assumption | decide | omega) r183_0 r183_1 r183_2 r183_3 (by decide) rxx qxx) hZ183 (wd hw 16 rfl) (wd hw 2 rfl) (by decide) (by decide)) (g := (mkF m 276 (la17 p0 p1 p2 p3 p4 p5 uw xl r_183 (10 : Int32) pp xx b876) [(.int p5), (.int p4), (.int p3), (.int xx), (.int pp), (.int uw), (.ref r_183), (.int 6), (.int 6), (.ref b876)])) rfl (by rw [hml]; rfl) (argsL := [(.int 6), (.ref r_183), (.int uw), (.int pp), (.int xx), (.int p3), (.int p4), (.int p5)]) (rest := [(.int 6), (.ref b876)]) (lenOf pd_9 rfl) rfl (wz rfl) (hb hby at_276) (fun _ _ => ⟨rfl, e933, (by decide : 3 + 0 ≤ _), (by decide : 50 + 0 ≤ _)⟩)
  dsimp only [Pt.U, Pt.locs, Pt.cells, Pt.slots] at X935 l935 y935 z935 st935 hQ935
  rw [l935, y935, z935] at X935
  obtain ⟨cv_935, rfl, N935q, e935, r935_0, r935_1⟩ := hQ935
  have N935 := Fr.app N933 N935q
  obtain ⟨cl941, Ar941, q941, S941, M941, H941, G941⟩ := id V933
  have hin941 : ¬ ((6 : Int32) < 0 ∨ cl941.slots.size ≤ ((6 : Int32)).toNatClampNeg) := inb_of S941 ⟨by decide, by decide⟩
  obtain ⟨T942, h942, X942, e942, W942, st942⟩ := stC X935 hx hZ183 e935 Ar941 (j := (6 : Int32)) hin941 (g := (mkF m 279 (la17 p0 p1 p2 p3 p4 p5 uw xl r_183 (10 : Int32) pp xx b876) [(.int cv_935), (.int 6), (.ref b876)])) rfl rfl (hb hby at_279)
  have N942 := Fr.snoc X942 N935 ge886
  have C943 : CHr Z EL1 s.vm h0 T183.vm h942 := C934.trans (CHr.wr W942 (Safe.arv hZ183.alike V933 (by decide)) C934.1)
  have sz942 : h933.size ≤ h942.size := Nat.le_of_eq W942.size.symm
  have nz942 := Nat.le_trans nz933 sz942
  have V942 : Arv Z h942 b876 k876 .char (10 : Int32) [(.int (nar .char cv_878)), (.int (nar .char cv_889)), (.int (nar .char cv_899)), (.int (nar .char cv_908)), (.int (nar .char cv_917)), (.int (nar .char cv_926)), (.int (nar .char cv_935)), (.int 0), (.int 0), (.int 0)] (.int 0) := Arv.set Ar941 q941 S941 M941 H941 G941 (fits_nar_char _) W942 6 rfl (Nat.le_of_ble_eq_true rfl)
  -- pc 306: KindNamedPinLaw.at by rm_at
  have f945 : Old Z n0 h942 := (f936.wr W942 ge886)
  have f946 : Exa Z h942 r_183 kS0 := (f937.wr W942)
  have f947 : Fld Z h942 r_183 kS0 "coder" "B" (.int 0) := (f938.other W942 (Or.inl (Ne.symm ne887)))
  have f948 : Fld Z h942 r_183 kS0 "value" "[B" (.ref t_183) := (f939.other W942 (Or.inl (Ne.symm ne887)))
  have f949 : Arv Z h942 t_183 k_183 .byte N_183 vs_183 (.int 0) := (f940.other W942 ne894)
  obtain ⟨_, _, ⟨T944, L944, k944, n944⟩, -, X944, ⟨Lc944, hQ944, l944, y944, z944⟩, st944⟩ := Jvm.LawKit.callS X942 hx (y := (⟨kS1, "at", kS3⟩ : MethodName)) hown183 (mvT hZ183 (wd hw 14 rfl)) (mvT hZ183 (wd hw 15 rfl)) (mvT hZ183 (wd hw 2 rfl)) (mvT hZ183 (wd hw 16 rfl)) (by decide) (backOf (W := 2) (rm_at l Z a0 hw [] (7 : Int32) uw pp xx p3 p4 p5 r_183 t_183 k_183 N_183 vs_183 cs_183 z0 f0 h942 n0 nz942 f945 f946 f947 f948 f949 (by first | assumption | decide | omega) (by first | assumption | decide | omega) (by first | assumption | decide | omega) (by first | assumption | decide | omega) r183_0 r183_1 r183_2 r183_3 (by decide) rxx qxx) hZ183 (wd hw 16 rfl) (wd hw 2 rfl) (by decide) (by decide)) (g := (mkF m 306 (la17 p0 p1 p2 p3 p4 p5 uw xl r_183 (10 : Int32) pp xx b876) [(.int p5), (.int p4), (.int p3), (.int xx), (.int pp), (.int uw), (.ref r_183), (.int 7), (.int 7), (.ref b876)])) rfl (by rw [hml]; rfl) (argsL := [(.int 7), (.ref r_183), (.int uw), (.int pp), (.int xx), (.int p3), (.int p4), (.int p5)]) (rest := [(.int 7), (.ref b876)]) (lenOf pd_9 rfl) rfl (wz rfl) (hb hby at_306) (fun _ _ => ⟨rfl, e942, (by decide : 3 + 0 ≤ _), (by decide : 50 + 0 ≤ _)⟩)
  dsimp only [Pt.U, Pt.locs, Pt.cells, Pt.slots] at X944 l944 y944 z944 st944 hQ944
  rw [l944, y944, z944] at X944
  obtain ⟨cv_944, rfl, N944q, e944, r944_0, r944_1⟩ := hQ944
  have N944 := Fr.app N942 N944q
  obtain ⟨cl950, Ar950, q950, S950, M950, H950, G950⟩ := id V942
  have hin950 : ¬ ((7 : Int32) < 0 ∨ cl950.slots.size ≤ ((7 : Int32)).toNatClampNeg) := inb_of S950 ⟨by decide, by decide⟩
  obtain ⟨T951, h951, X951, e951, W951, st951⟩ := stC X944 hx hZ183 e944 Ar950 (j := (7 : Int32)) hin950 (g := (mkF m 309 (la17 p0 p1 p2 p3 p4 p5 uw xl r_183 (10 : Int32) pp xx b876) [(.int cv_944), (.int 7), (.ref b876)])) rfl rfl (hb hby at_309)
  have N951 := Fr.snoc X951 N944 ge886
  have C952 : CHr Z EL1 s.vm h0 T183.vm h951 := C943.trans (CHr.wr W951 (Safe.arv hZ183.alike V942 (by decide)) C943.1)
  have sz951 : h942.size ≤ h951.size := Nat.le_of_eq W951.size.symm
  have nz951 := Nat.le_trans nz942 sz951
  have V951 : Arv Z h951 b876 k876 .char (10 : Int32) [(.int (nar .char cv_878)), (.int (nar .char cv_889)), (.int (nar .char cv_899)), (.int (nar .char cv_908)), (.int (nar .char cv_917)), (.int (nar .char cv_926)), (.int (nar .char cv_935)), (.int (nar .char cv_944)), (.int 0), (.int 0)] (.int 0) := Arv.set Ar950 q950 S950 M950 H950 G950 (fits_nar_char _) W951 7 rfl (Nat.le_of_ble_eq_true rfl)
  -- pc 336: KindNamedPinLaw.at by rm_at
  have f954 : Old Z n0 h951 := (f945.wr W951 ge886)
  have f955 : Exa Z h951 r_183 kS0 := (f946.wr W951)
  have f956 : Fld Z h951 r_183 kS0 "coder" "B" (.int 0) := (f947.other W951 (Or.inl (Ne.symm ne887)))
  have f957 : Fld Z h951 r_183 kS0 "value" "[B" (.ref t_183) := (f948.other W951 (Or.inl (Ne.symm ne887)))
  have f958 : Arv Z h951 t_183 k_183 .byte N_183 vs_183 (.int 0) := (f949.other W951 ne894)
  obtain ⟨_, _, ⟨T953, L953, k953, n953⟩, -, X953, ⟨Lc953, hQ953, l953, y953, z953⟩, st953⟩ := Jvm.LawKit.callS X951 hx (y := (⟨kS1, "at", kS3⟩ : MethodName)) hown183 (mvT hZ183 (wd hw 14 rfl)) (mvT hZ183 (wd hw 15 rfl)) (mvT hZ183 (wd hw 2 rfl)) (mvT hZ183 (wd hw 16 rfl)) (by decide) (backOf (W := 2) (rm_at l Z a0 hw [] (8 : Int32) uw pp xx p3 p4 p5 r_183 t_183 k_183 N_183 vs_183 cs_183 z0 f0 h951 n0 nz951 f954 f955 f956 f957 f958 (by first | assumption | decide | omega) (by first | assumption | decide | omega) (by first | assumption | decide | omega) (by first | assumption | decide | omega) r183_0 r183_1 r183_2 r183_3 (by decide) rxx qxx) hZ183 (wd hw 16 rfl) (wd hw 2 rfl) (by decide) (by decide)) (g := (mkF m 336 (la17 p0 p1 p2 p3 p4 p5 uw xl r_183 (10 : Int32) pp xx b876) [(.int p5), (.int p4), (.int p3), (.int xx), (.int pp), (.int uw), (.ref r_183), (.int 8), (.int 8), (.ref b876)])) rfl (by rw [hml]; rfl) (argsL := [(.int 8), (.ref r_183), (.int uw), (.int pp), (.int xx), (.int p3), (.int p4), (.int p5)]) (rest := [(.int 8), (.ref b876)]) (lenOf pd_9 rfl) rfl (wz rfl) (hb hby at_336) (fun _ _ => ⟨rfl, e951, (by decide : 3 + 0 ≤ _), (by decide : 50 + 0 ≤ _)⟩)
  dsimp only [Pt.U, Pt.locs, Pt.cells, Pt.slots] at X953 l953 y953 z953 st953 hQ953
  rw [l953, y953, z953] at X953
  obtain ⟨cv_953, rfl, N953q, e953, r953_0, r953_1⟩ := hQ953
  have N953 := Fr.app N951 N953q
  obtain ⟨cl959, Ar959, q959, S959, M959, H959, G959⟩ := id V951
  have hin959 : ¬ ((8 : Int32) < 0 ∨ cl959.slots.size ≤ ((8 : Int32)).toNatClampNeg) := inb_of S959 ⟨by decide, by decide⟩
  obtain ⟨T960, h960, X960, e960, W960, st960⟩ := stC X953 hx hZ183 e953 Ar959 (j := (8 : Int32)) hin959 (g := (mkF m 339 (la17 p0 p1 p2 p3 p4 p5 uw xl r_183 (10 : Int32) pp xx b876) [(.int cv_953), (.int 8), (.ref b876)])) rfl rfl (hb hby at_339)
  have N960 := Fr.snoc X960 N953 ge886
  have C961 : CHr Z EL1 s.vm h0 T183.vm h960 := C952.trans (CHr.wr W960 (Safe.arv hZ183.alike V951 (by decide)) C952.1)
  have sz960 : h951.size ≤ h960.size := Nat.le_of_eq W960.size.symm
  have nz960 := Nat.le_trans nz951 sz960
  have V960 : Arv Z h960 b876 k876 .char (10 : Int32) [(.int (nar .char cv_878)), (.int (nar .char cv_889)), (.int (nar .char cv_899)), (.int (nar .char cv_908)), (.int (nar .char cv_917)), (.int (nar .char cv_926)), (.int (nar .char cv_935)), (.int (nar .char cv_944)), (.int (nar .char cv_953)), (.int 0)] (.int 0) := Arv.set Ar959 q959 S959 M959 H959 G959 (fits_nar_char _) W960 8 rfl (Nat.le_of_ble_eq_true rfl)
  -- pc 366: KindNamedPinLaw.at by rm_at
  have f963 : Old Z n0 h960 := (f954.wr W960 ge886)
  have f964 : Exa Z h960 r_183 kS0 := (f955.wr W960)
  have f965 : Fld Z h960 r_183 kS0 "coder" "B" (.int 0) := (f956.other W960 (Or.inl (Ne.symm ne887)))
  have f966 : Fld Z h960 r_183 kS0 "value" "[B" (.ref t_183) := (f957.other W960 (Or.inl (Ne.symm ne887)))
  have f967 : Arv Z h960 t_183 k_183 .byte N_183 vs_183 (.int 0) := (f958.other W960 ne894)
  obtain ⟨_, _, ⟨T962, L962, k962, n962⟩, -, X962, ⟨Lc962, hQ962, l962, y962, z962⟩, st962⟩ := Jvm.LawKit.callS X960 hx (y := (⟨kS1, "at", kS3⟩ : MethodName)) hown183 (mvT hZ183 (wd hw 14 rfl)) (mvT hZ183 (wd hw 15 rfl)) (mvT hZ183 (wd hw 2 rfl)) (mvT hZ183 (wd hw 16 rfl)) (by decide) (backOf (W := 2) (rm_at l Z a0 hw [] (9 : Int32) uw pp xx p3 p4 p5 r_183 t_183 k_183 N_183 vs_183 cs_183 z0 f0 h960 n0 nz960 f963 f964 f965 f966 f967 (by first | assumption | decide | omega) (by first | assumption | decide | omega) (by first | assumption | decide | omega) (by first | assumption | decide | omega) r183_0 r183_1 r183_2 r183_3 (by decide) rxx qxx) hZ183 (wd hw 16 rfl) (wd hw 2 rfl) (by decide) (by decide)) (g := (mkF m 366 (la17 p0 p1 p2 p3 p4 p5 uw xl r_183 (10 : Int32) pp xx b876) [(.int p5), (.int p4), (.int p3), (.int xx), (.int pp), (.int uw), (.ref r_183), (.int 9), (.int 9), (.ref b876)])) rfl (by rw [hml]; rfl) (argsL := [(.int 9), (.ref r_183), (.int uw), (.int pp), (.int xx), (.int p3), (.int p4), (.int p5)]) (rest := [(.int 9), (.ref b876)]) (lenOf pd_9 rfl) rfl (wz rfl) (hb hby at_366) (fun _ _ => ⟨rfl, e960, (by decide : 3 + 0 ≤ _), (by decide : 50 + 0 ≤ _)⟩)
  dsimp only [Pt.U, Pt.locs, Pt.cells, Pt.slots] at X962 l962 y962 z962 st962 hQ962
  rw [l962, y962, z962] at X962
  obtain ⟨cv_962, rfl, N962q, e962, r962_0, r962_1⟩ := hQ962
  have N962 := Fr.app N960 N962q
  obtain ⟨cl968, Ar968, q968, S968, M968, H968, G968⟩ := id V960
  have hin968 : ¬ ((9 : Int32) < 0 ∨ cl968.slots.size ≤ ((9 : Int32)).toNatClampNeg) := inb_of S968 ⟨by decide, by decide⟩
  obtain ⟨T969, h969, X969, e969, W969, st969⟩ := stC X962 hx hZ183 e962 Ar968 (j := (9 : Int32)) hin968 (g := (mkF m 369 (la17 p0 p1 p2 p3 p4 p5 uw xl r_183 (10 : Int32) pp xx b876) [(.int cv_962), (.int 9), (.ref b876)])) rfl rfl (hb hby at_369)
  have N969 := Fr.snoc X969 N962 ge886
  have C970 : CHr Z EL1 s.vm h0 T183.vm h969 := C961.trans (CHr.wr W969 (Safe.arv hZ183.alike V960 (by decide)) C961.1)
  have sz969 : h960.size ≤ h969.size := Nat.le_of_eq W969.size.symm
  have nz969 := Nat.le_trans nz960 sz969
  have V969 : Arv Z h969 b876 k876 .char (10 : Int32) [(.int (nar .char cv_878)), (.int (nar .char cv_889)), (.int (nar .char cv_899)), (.int (nar .char cv_908)), (.int (nar .char cv_917)), (.int (nar .char cv_926)), (.int (nar .char cv_935)), (.int (nar .char cv_944)), (.int (nar .char cv_953)), (.int (nar .char cv_962))] (.int 0) := Arv.set Ar968 q968 S968 M968 H968 G968 (fits_nar_char _) W969 9 rfl (Nat.le_of_ble_eq_true rfl)
  have V971 : Arv Z h969 b876 k876 .char (10 : Int32) [(.int cv_878), (.int cv_889), (.int cv_899), (.int cv_908), (.int cv_917), (.int cv_926), (.int cv_935), (.int cv_944), (.int cv_953), (.int cv_962)] (.int 0) := by
   have q := V969
   rw [r878_1, r889_1, r899_1, r908_1, r917_1, r926_1, r935_1, r944_1, r953_1, r962_1] at q
   exact q
  obtain ⟨T972, h972, X972, e972, E972, A972, D972, U972, st972⟩ := newO X969 hx hZ183 hown183 (wd hw 20 rfl) (wd hw 6 rfl) (wd hw 5 rfl) e969 (g := (mkF m 370 (la17 p0 p1 p2 p3 p4 p5 uw xl r_183 (10 : Int32) pp xx b876) [])) rfl (hb hby at_370) (by decide) (by decide)
  obtain ⟨b972, g972⟩ : ∃ z, z = h969.size := ⟨_, rfl⟩
  rw [← g972] at A972 D972 U972 st972
  have C973 : CHr Z EL1 s.vm h0 T183.vm h972 := C970.trans (CHr.ext E972 C970.1)
  have sz972 : h969.size ≤ h972.size := E972.1
  have nz972 := Nat.le_trans nz969 sz972
  have lt972 := ltA A972.lt
  have B972 : Safe Z EL1 T183.vm h972 b972 := Safe.ext E972 C970.1 (Safe.new (by omega))
  have f974 : Fld Z h972 b972 kS0 "value" "[B" .null := D972 (Or.inr (wd hw 8 rfl)) (ty := (.array .byte)) (by decide)
  have f975 : Fld Z h972 b972 kS0 "coder" "B" (.int 0) := D972 (Or.inr (wd hw 9 rfl)) (ty := .byte) (by decide)
  have f976 : Arv Z h972 b876 k876 .char (10 : Int32) [(.int cv_878), (.int cv_889), (.int cv_899), (.int cv_908), (.int cv_917), (.int cv_926), (.int cv_935), (.int cv_944), (.int cv_953), (.int cv_962)] (.int 0) := (V971.ext E972)
  have f977 : Old Z n0 h972 := ((f963.wr W969 ge886).ext E972)
  have S978 : Sta Z h972 kS0 "COMPACT_STRINGS" "Z" (.int z0) := SZc.ext f977.2
  obtain ⟨v979, _, ⟨T979, L979, k979, n979⟩, -, X979, ⟨Lc979, hQ979, l979, y979, z979⟩, st979⟩ := X972.specialBack hx (y := (⟨kS0, "<init>", "([C)V"⟩ : MethodName)) rfl hown183 (mvT hZ183 (wd hw 21 rfl)) (mvT hZ183 (wd hw 22 rfl)) (mvT hZ183 (wd hw 23 rfl)) (by decide) (StrChars.Road.backV (W := 1) hZ183 (own_hws hw) (kI := 4) (wd hw 6 rfl) (cs := ([cv_878, cv_889, cv_899, cv_908, cv_917, cv_926, cv_935, cv_944, cv_953, cv_962] : List Int32)) (bs := ([cv_878, cv_889, cv_899, cv_908, cv_917, cv_926, cv_935, cv_944, cv_953, cv_962] : List Int32).map (fun c => c.toInt8.toInt32)) (n := 10) (n0 := n0) (by omega) (by omega) A972 f974 f975 f976 S978 hz0 rfl rfl (by decide) (by decide) (own_allS r878_0 (own_allS r889_0 (own_allS r899_0 (own_allS r908_0 (own_allS r917_0 (own_allS r926_0 (own_allS r935_0 (own_allS r944_0 (own_allS r953_0 (own_allS r962_0 own_all0)))))))))) rfl (by decide) (by decide)) (g := (mkF m 376 (la17 p0 p1 p2 p3 p4 p5 uw xl r_183 (10 : Int32) pp xx b876) [(.ref b876), (.ref b972), (.ref b972)])) rfl (by rw [hml]; rfl) (Steps.refl _) (a := b972) (argsL := [(.ref b876)]) (rest := [(.ref b972)]) (lenOf pd_7 rfl) rfl (wz rfl) (hb hby at_376) (fun _ _ => ⟨rfl, e972, (by decide : 4 + 1 ≤ _), (by decide : 54 + 10 ≤ _)⟩)
  dsimp only [Pt.U, Pt.locs, Pt.cells, Pt.slots] at X979 l979 y979 z979 st979 hQ979
  rw [l979, y979, z979] at X979
  obtain ⟨h979, e979⟩ : ∃ z, T979.heap = z := ⟨_, rfl⟩
  rw [e979] at hQ979
  obtain ⟨rfl, N979q, K979, A979, Fc979, t979, kb979, u979, lo979, nt979, Fv979, V979⟩ := hQ979
  have N979 := Fr.app N969 N979q
  have f980 : Arv Z h972 t_183 k_183 .byte N_183 vs_183 (.int 0) := ((f967.other W969 ne894).ext E972)
  have ne981 : b972 ≠ t_183 := Exa.neArv A972 f980 (wd hw 6 rfl)
  have C982 : CHr Z EL1 s.vm h0 T183.vm h979 := C973.trans (CHr.keep K979 (sfS B972 sf0) C973.1)
  have sz979 : h972.size ≤ h979.size := K979.1
  have nz979 := Nat.le_trans nz972 sz979
  have lt979 := ltA V979.lt
  have hcd979 : StrChars.Road.CodA ([cv_878, cv_889, cv_899, cv_908, cv_917, cv_926, cv_935, cv_944, cv_953, cv_962] : List Int32) 0 (10 : Int32) ((([cv_878, cv_889, cv_899, cv_908, cv_917, cv_926, cv_935, cv_944, cv_953, cv_962] : List Int32).map (fun c => c.toInt8.toInt32)).map Value.int) := own_codn rfl (fun c hc => ((own_allS r878_0 (own_allS r889_0 (own_allS r899_0 (own_allS r908_0 (own_allS r917_0 (own_allS r926_0 (own_allS r935_0 (own_allS r944_0 (own_allS r953_0 (own_allS r962_0 own_all0)))))))))) c hc).2)
  -- pc 383: Kind.named by rm_named
  have ge984 : n0 ≤ b972 := by omega
  have f985 : Old Z n0 h979 := (f977.keep K979 (allS ge984 all0))
  obtain ⟨_, _, ⟨T983, L983, k983, n983⟩, -, X983, ⟨Lc983, hQ983, l983, y983, z983⟩, st983⟩ := Jvm.LawKit.callS X979 hx (y := (⟨"com/example/rolegrant/rolegrant/policy/Kind", "named", kS2⟩ : MethodName)) hown183 (mvT hZ183 (wd hw 44 rfl)) (mvT hZ183 (wd hw 45 rfl)) (mvT hZ183 (wd hw 46 rfl)) (mvT hZ183 (wd hw 47 rfl)) (by decide) (backOf (W := 0) (rm_named l Z a0 hw [] b972 t979 kb979 (10 : Int32) ((([cv_878, cv_889, cv_899, cv_908, cv_917, cv_926, cv_935, cv_944, cv_953, cv_962] : List Int32).map (fun c => c.toInt8.toInt32)).map Value.int) ([cv_878, cv_889, cv_899, cv_908, cv_917, cv_926, cv_935, cv_944, cv_953, cv_962] : List Int32) z0 va u0 u1 u2 u3 w0 w1 w2 w3 y0 y1 y2 y3 kV b0 b1 b2 b3 h979 n0 nz979 f985 A979 Fc979 Fv979 V979 (by first | assumption | decide | omega) (by first | assumption | decide | omega) hcd979 (own_up (own_allS r878_0 (own_allS r889_0 (own_allS r899_0 (own_allS r908_0 (own_allS r917_0 (own_allS r926_0 (own_allS r935_0 (own_allS r944_0 (own_allS r953_0 (own_allS r962_0 own_all0))))))))))) (Nat.le_of_ble_eq_true rfl) (by first | assumption | decide | omega)) hZ183 (wd hw 47 rfl) (wd hw 46 rfl) (by decide) (by decide)) (g := (mkF m 383 (la18 p0 p1 p2 p3 p4 p5 uw xl r_183 (10 : Int32) pp xx b876 b972) [(.ref b972)])) rfl (by rw [hml]; rfl) (argsL := [(.ref b972)]) (rest := []) (lenOf pd_8 rfl) rfl (wz rfl) (hb hby at_383) (fun _ _ => ⟨rfl, e979, (by decide : 5 + 1 ≤ _), (by decide : 64 + 4 ≤ _)⟩)
  dsimp only [Pt.U, Pt.locs, Pt.cells, Pt.slots] at X983 l983 y983 z983 st983 hQ983
  rw [l983, y983, z983] at X983
  obtain ⟨h983, e983⟩ : ∃ z, T983.heap = z := ⟨_, rfl⟩
  rw [e983] at hQ983
  obtain ⟨rfl, N983q, K983⟩ := hQ983
  have N983 := Fr.app N979 N983q
  have C986 : CHr Z EL1 s.vm h0 T183.vm h983 := C982.trans (CHr.keep K983 sf0 C982.1)
  have sz983 : h979.size ≤ h983.size := K983.1
  have nz983 := Nat.le_trans nz979 sz983
  -- pc 388: KindNamedPinLaw.expected by rm_exp
  have f988 : Old Z n0 h983 := (f985.keep K983 all0)
  have f989 : Exa Z h983 b972 kS0 := (A979.keep K983)
  have f990 : Fld Z h983 b972 kS0 "coder" "B" (.int 0) := (Fc979.keep K983 nin0)
  have f991 : Fld Z h983 b972 kS0 "value" "[B" (.ref t979) := (Fv979.keep K983 nin0)
  have f992 : Arv Z h983 t979 kb979 .byte (10 : Int32) ((([cv_878, cv_889, cv_899, cv_908, cv_917, cv_926, cv_935, cv_944, cv_953, cv_962] : List Int32).map (fun c => c.toInt8.toInt32)).map Value.int) (.int 0) := (V979.keep K983 nin0)
  obtain ⟨_, _, ⟨T987, L987, k987, n987⟩, -, X987w, hS987w, gr987, ⟨Lc987, hQ987, l987, y987, z987, C987w⟩, st987⟩ := callSS X983 hx (y := (⟨kS1, "expected", kS2⟩ : MethodName)) hown183 (mvT hZ183 (wd hw 79 rfl)) (mvT hZ183 (wd hw 80 rfl)) (mvT hZ183 (wd hw 2 rfl)) (mvT hZ183 (wd hw 81 rfl)) (by decide) (own_backS (W := 1) (rm_exp l Z a0 hw [] b972 t979 kb979 (10 : Int32) ((([cv_878, cv_889, cv_899, cv_908, cv_917, cv_926, cv_935, cv_944, cv_953, cv_962] : List Int32).map (fun c => c.toInt8.toInt32)).map Value.int) ([cv_878, cv_889, cv_899, cv_908, cv_917, cv_926, cv_935, cv_944, cv_953, cv_962] : List Int32) z0 va u0 u1 u2 u3 w0 w1 w2 w3 y0 y1 y2 y3 kV b0 b1 b2 b3 h983 n0 nz983 f988 f989 f990 f991 f992 (by first | assumption | decide | omega) (by first | assumption | decide | omega) hcd979 (own_up (own_allS r878_0 (own_allS r889_0 (own_allS r899_0 (own_allS r908_0 (own_allS r917_0 (own_allS r926_0 (own_allS r935_0 (own_allS r944_0 (own_allS r953_0 (own_allS r962_0 own_all0))))))))))) (Nat.le_of_ble_eq_true rfl) (by first | assumption | decide | omega)) hZ183 (wd hw 81 rfl) (wd hw 2 rfl) (by decide) (by decide) (own_EW hw) C986.1 sf0 all0) (g := (mkF m 388 (la18 p0 p1 p2 p3 p4 p5 uw xl r_183 (10 : Int32) pp xx b876 b972) [(.ref b972), (own_pick ([cv_878, cv_889, cv_899, cv_908, cv_917, cv_926, cv_935, cv_944, cv_953, cv_962] : List Int32) u0 u1 u2 u3)])) rfl (by rw [hml]; rfl) (argsL := [(.ref b972)]) (rest := [(own_pick ([cv_878, cv_889, cv_899, cv_908, cv_917, cv_926, cv_935, cv_944, cv_953, cv_962] : List Int32) u0 u1 u2 u3)]) (lenOf pd_8 rfl) rfl (own_wx _ _ _ _ _) (hb hby at_388) (fun _ _ => ⟨rfl, e983, (by decide : 6 + 8 ≤ _), (by decide : 68 + 104 ≤ _)⟩)
  dsimp only [Pt.U, Pt.locs, Pt.cells, Pt.slots] at X987w hS987w gr987 l987 y987 z987 st987 hQ987 C987w
  rw [l987, y987, z987] at X987w
  obtain ⟨X987, hS987, hZ987, hown987⟩ := rebS hS183 (by rw [e983]; omega) X987w hS987w gr987 hZ183 hown183
  obtain ⟨h987, e987⟩ : ∃ z, T987.heap = z := ⟨_, rfl⟩
  rw [e987] at hQ987
  obtain ⟨rfl, N987q, K987⟩ := hQ987
  have N987 := Fr.app N983 N987q
  rw [e987] at C987w hS987
  have hk987 : h987.size ≤ h987.size := Nat.le_refl _
  have C993 : CHr Z EL1 s.vm h0 T987.vm h987 := C986.trans (C987w)
  have sz987 : h983.size ≤ h987.size := K987.1
  have nz987 := Nat.le_trans nz983 sz987
  obtain ⟨fs, hr, hrun, hended, hE⟩ := X987.leaveW hS987 (by rw [e987]; omega) (v := some (.int 1)) (fun h => by rw [Bd.returns] at h; cases h)
  have CE := C993.trans (CHv.at X987 hZ987 (own_EW hw) C993.1)
  refine ⟨_, _, pre196 _ ?_, hrun, hended, _, _, rfl, ?_, ?_, ⟨hE.1, hE.2.1, hE.2.2.1, hE.2.2.2.mono (by decide) (by decide)⟩⟩
  ·show GO p e below T186 (mkF m 83 (la16 p0 p1 p2 p3 p4 p5 uw xl r_183 (10 : Int32) pp xx) []) _
   refine XS.iload X186.here hx rfl (hb hby at_83) rfl ?_
   show GO p e below T186 (mkF m 85 (la16 p0 p1 p2 p3 p4 p5 uw xl r_183 (10 : Int32) pp xx) [(.int 10)]) _
   refine st876 _ ?_
   show GO p e below T876 (mkF m 87 (la16 p0 p1 p2 p3 p4 p5 uw xl r_183 (10 : Int32) pp xx) [(.ref b876)]) _
   refine XS.astore X876.here hx rfl (hb hby at_87) rfl rfl (l' := (la17 p0 p1 p2 p3 p4 p5 uw xl r_183 (10 : Int32) pp xx b876)) rfl ?_
   show GO p e below T876 (mkF m 89 (la17 p0 p1 p2 p3 p4 p5 uw xl r_183 (10 : Int32) pp xx b876) []) _
   refine XS.iload X876.here hx rfl (hb hby at_89) rfl ?_
   show GO p e below T876 (mkF m 91 (la17 p0 p1 p2 p3 p4 p5 uw xl r_183 (10 : Int32) pp xx b876) [(.int 10)]) _
   refine XS.ifNo X876.here hx rfl (hb hby at_91) rfl ((if0 _ _).trans (tlt ((by decide) : (0 : Int32) < (10 : Int32))).2.2.2) ?_
   show GO p e below T876 (mkF m 94 (la17 p0 p1 p2 p3 p4 p5 uw xl r_183 (10 : Int32) pp xx b876) []) _
   refine XS.aload X876.here hx rfl (hb hby at_94) rfl rfl ?_
   show GO p e below T876 (mkF m 96 (la17 p0 p1 p2 p3 p4 p5 uw xl r_183 (10 : Int32) pp xx b876) [(.ref b876)]) _
   refine XS.iconst X876.here hx rfl (hb hby at_96) ?_
   show GO p e below T876 (mkF m 97 (la17 p0 p1 p2 p3 p4 p5 uw xl r_183 (10 : Int32) pp xx b876) [(.int 0), (.ref b876)]) _
   refine XS.iconst X876.here hx rfl (hb hby at_97) ?_
   show GO p e below T876 (mkF m 98 (la17 p0 p1 p2 p3 p4 p5 uw xl r_183 (10 : Int32) pp xx b876) [(.int 0), (.int 0), (.ref b876)]) _
   refine XS.aload X876.here hx rfl (hb hby at_98) rfl rfl ?_
   show GO p e below T876 (mkF m 100 (la17 p0 p1 p2 p3 p4 p5 uw xl r_183 (10 : Int32) pp xx b876) [(.ref r_183), (.int 0), (.int 0), (.ref b876)]) _
   refine XS.iload X876.here hx rfl (hb hby at_100) rfl ?_
   show GO p e below T876 (mkF m 102 (la17 p0 p1 p2 p3 p4 p5 uw xl r_183 (10 : Int32) pp xx b876) [(.int uw), (.ref r_183), (.int 0), (.int 0), (.ref b876)]) _
   refine XS.iload X876.here hx rfl (hb hby at_102) rfl ?_
   show GO p e below T876 (mkF m 104 (la17 p0 p1 p2 p3 p4 p5 uw xl r_183 (10 : Int32) pp xx b876) [(.int pp), (.int uw), (.ref r_183), (.int 0), (.int 0), (.ref b876)]) _
   refine XS.iload X876.here hx rfl (hb hby at_104) rfl ?_
   show GO p e below T876 (mkF m 106 (la17 p0 p1 p2 p3 p4 p5 uw xl r_183 (10 : Int32) pp xx b876) [(.int xx), (.int pp), (.int uw), (.ref r_183), (.int 0), (.int 0), (.ref b876)]) _
   refine XS.iloadN X876.here hx rfl (hb hby at_106) rfl ?_
   show GO p e below T876 (mkF m 107 (la17 p0 p1 p2 p3 p4 p5 uw xl r_183 (10 : Int32) pp xx b876) [(.int p3), (.int xx), (.int pp), (.int uw), (.ref r_183), (.int 0), (.int 0), (.ref b876)]) _
   refine XS.iload X876.here hx rfl (hb hby at_107) rfl ?_
   show GO p e below T876 (mkF m 109 (la17 p0 p1 p2 p3 p4 p5 uw xl r_183 (10 : Int32) pp xx b876) [(.int p4), (.int p3), (.int xx), (.int pp), (.int uw), (.ref r_183), (.int 0), (.int 0), (.ref b876)]) _
   refine XS.iload X876.here hx rfl (hb hby at_109) rfl ?_
   show GO p e below T876 (mkF m 111 (la17 p0 p1 p2 p3 p4 p5 uw xl r_183 (10 : Int32) pp xx b876) [(.int p5), (.int p4), (.int p3), (.int xx), (.int pp), (.int uw), (.ref r_183), (.int 0), (.int 0), (.ref b876)]) _
   refine st878 _ ?_
   show GO p e below T878 (mkF m 114 (la17 p0 p1 p2 p3 p4 p5 uw xl r_183 (10 : Int32) pp xx b876) [(.int cv_878), (.int 0), (.ref b876)]) _
   refine st885 _ ?_
   show GO p e below T885 (mkF m 115 (la17 p0 p1 p2 p3 p4 p5 uw xl r_183 (10 : Int32) pp xx b876) []) _
   refine XS.iload X885.here hx rfl (hb hby at_115) rfl ?_
   show GO p e below T885 (mkF m 117 (la17 p0 p1 p2 p3 p4 p5 uw xl r_183 (10 : Int32) pp xx b876) [(.int 10)]) _
   refine XS.iconst X885.here hx rfl (hb hby at_117) ?_
   show GO p e below T885 (mkF m 118 (la17 p0 p1 p2 p3 p4 p5 uw xl r_183 (10 : Int32) pp xx b876) [(.int 1), (.int 10)]) _
   refine XS.icmpNo X885.here hx rfl (hb hby at_118) rfl (tlt ((by decide) : (1 : Int32) < (10 : Int32))).2.2.2 ?_
   show GO p e below T885 (mkF m 121 (la17 p0 p1 p2 p3 p4 p5 uw xl r_183 (10 : Int32) pp xx b876) []) _
   refine XS.aload X885.here hx rfl (hb hby at_121) rfl rfl ?_
   show GO p e below T885 (mkF m 123 (la17 p0 p1 p2 p3 p4 p5 uw xl r_183 (10 : Int32) pp xx b876) [(.ref b876)]) _
   refine XS.iconst X885.here hx rfl (hb hby at_123) ?_
   show GO p e below T885 (mkF m 124 (la17 p0 p1 p2 p3 p4 p5 uw xl r_183 (10 : Int32) pp xx b876) [(.int 1), (.ref b876)]) _
   refine XS.iconst X885.here hx rfl (hb hby at_124) ?_
   show GO p e below T885 (mkF m 125 (la17 p0 p1 p2 p3 p4 p5 uw xl r_183 (10 : Int32) pp xx b876) [(.int 1), (.int 1), (.ref b876)]) _
   refine XS.aload X885.here hx rfl (hb hby at_125) rfl rfl ?_
   show GO p e below T885 (mkF m 127 (la17 p0 p1 p2 p3 p4 p5 uw xl r_183 (10 : Int32) pp xx b876) [(.ref r_183), (.int 1), (.int 1), (.ref b876)]) _
   refine XS.iload X885.here hx rfl (hb hby at_127) rfl ?_
   show GO p e below T885 (mkF m 129 (la17 p0 p1 p2 p3 p4 p5 uw xl r_183 (10 : Int32) pp xx b876) [(.int uw), (.ref r_183), (.int 1), (.int 1), (.ref b876)]) _
   refine XS.iload X885.here hx rfl (hb hby at_129) rfl ?_
   show GO p e below T885 (mkF m 131 (la17 p0 p1 p2 p3 p4 p5 uw xl r_183 (10 : Int32) pp xx b876) [(.int pp), (.int uw), (.ref r_183), (.int 1), (.int 1), (.ref b876)]) _
   refine XS.iload X885.here hx rfl (hb hby at_131) rfl ?_
   show GO p e below T885 (mkF m 133 (la17 p0 p1 p2 p3 p4 p5 uw xl r_183 (10 : Int32) pp xx b876) [(.int xx), (.int pp), (.int uw), (.ref r_183), (.int 1), (.int 1), (.ref b876)]) _
   refine XS.iloadN X885.here hx rfl (hb hby at_133) rfl ?_
   show GO p e below T885 (mkF m 134 (la17 p0 p1 p2 p3 p4 p5 uw xl r_183 (10 : Int32) pp xx b876) [(.int p3), (.int xx), (.int pp), (.int uw), (.ref r_183), (.int 1), (.int 1), (.ref b876)]) _
   refine XS.iload X885.here hx rfl (hb hby at_134) rfl ?_
   show GO p e below T885 (mkF m 136 (la17 p0 p1 p2 p3 p4 p5 uw xl r_183 (10 : Int32) pp xx b876) [(.int p4), (.int p3), (.int xx), (.int pp), (.int uw), (.ref r_183), (.int 1), (.int 1), (.ref b876)]) _
   refine XS.iload X885.here hx rfl (hb hby at_136) rfl ?_
   show GO p e below T885 (mkF m 138 (la17 p0 p1 p2 p3 p4 p5 uw xl r_183 (10 : Int32) pp xx b876) [(.int p5), (.int p4), (.int p3), (.int xx), (.int pp), (.int uw), (.ref r_183), (.int 1), (.int 1), (.ref b876)]) _
   refine st889 _ ?_
   show GO p e below T889 (mkF m 141 (la17 p0 p1 p2 p3 p4 p5 uw xl r_183 (10 : Int32) pp xx b876) [(.int cv_889), (.int 1), (.ref b876)]) _
   refine st897 _ ?_
   show GO p e below T897 (mkF m 142 (la17 p0 p1 p2 p3 p4 p5 uw xl r_183 (10 : Int32) pp xx b876) []) _
   refine XS.iload X897.here hx rfl (hb hby at_142) rfl ?_
   show GO p e below T897 (mkF m 144 (la17 p0 p1 p2 p3 p4 p5 uw xl r_183 (10 : Int32) pp xx b876) [(.int 10)]) _
   refine XS.iconst X897.here hx rfl (hb hby at_144) ?_
   show GO p e below T897 (mkF m 145 (la17 p0 p1 p2 p3 p4 p5 uw xl r_183 (10 : Int32) pp xx b876) [(.int 2), (.int 10)]) _
   refine XS.icmpNo X897.here hx rfl (hb hby at_145) rfl (tlt ((by decide) : (2 : Int32) < (10 : Int32))).2.2.2 ?_
   show GO p e below T897 (mkF m 148 (la17 p0 p1 p2 p3 p4 p5 uw xl r_183 (10 : Int32) pp xx b876) []) _
   refine XS.aload X897.here hx rfl (hb hby at_148) rfl rfl ?_
   show GO p e below T897 (mkF m 150 (la17 p0 p1 p2 p3 p4 p5 uw xl r_183 (10 : Int32) pp xx b876) [(.ref b876)]) _
   refine XS.iconst X897.here hx rfl (hb hby at_150) ?_
   show GO p e below T897 (mkF m 151 (la17 p0 p1 p2 p3 p4 p5 uw xl r_183 (10 : Int32) pp xx b876) [(.int 2), (.ref b876)]) _
   refine XS.iconst X897.here hx rfl (hb hby at_151) ?_
   show GO p e below T897 (mkF m 152 (la17 p0 p1 p2 p3 p4 p5 uw xl r_183 (10 : Int32) pp xx b876) [(.int 2), (.int 2), (.ref b876)]) _
   refine XS.aload X897.here hx rfl (hb hby at_152) rfl rfl ?_
   show GO p e below T897 (mkF m 154 (la17 p0 p1 p2 p3 p4 p5 uw xl r_183 (10 : Int32) pp xx b876) [(.ref r_183), (.int 2), (.int 2), (.ref b876)]) _
   refine XS.iload X897.here hx rfl (hb hby at_154) rfl ?_
   show GO p e below T897 (mkF m 156 (la17 p0 p1 p2 p3 p4 p5 uw xl r_183 (10 : Int32) pp xx b876) [(.int uw), (.ref r_183), (.int 2), (.int 2), (.ref b876)]) _
   refine XS.iload X897.here hx rfl (hb hby at_156) rfl ?_
   show GO p e below T897 (mkF m 158 (la17 p0 p1 p2 p3 p4 p5 uw xl r_183 (10 : Int32) pp xx b876) [(.int pp), (.int uw), (.ref r_183), (.int 2), (.int 2), (.ref b876)]) _
   refine XS.iload X897.here hx rfl (hb hby at_158) rfl ?_
   show GO p e below T897 (mkF m 160 (la17 p0 p1 p2 p3 p4 p5 uw xl r_183 (10 : Int32) pp xx b876) [(.int xx), (.int pp), (.int uw), (.ref r_183), (.int 2), (.int 2), (.ref b876)]) _
   refine XS.iloadN X897.here hx rfl (hb hby at_160) rfl ?_
   show GO p e below T897 (mkF m 161 (la17 p0 p1 p2 p3 p4 p5 uw xl r_183 (10 : Int32) pp xx b876) [(.int p3), (.int xx), (.int pp), (.int uw), (.ref r_183), (.int 2), (.int 2), (.ref b876)]) _
   refine XS.iload X897.here hx rfl (hb hby at_161) rfl ?_
   show GO p e below T897 (mkF m 163 (la17 p0 p1 p2 p3 p4 p5 uw xl r_183 (10 : Int32) pp xx b876) [(.int p4), (.int p3), (.int xx), (.int pp), (.int uw), (.ref r_183), (.int 2), (.int 2), (.ref b876)]) _
   refine XS.iload X897.here hx rfl (hb hby at_163) rfl ?_
   show GO p e below T897 (mkF m 165 (la17 p0 p1 p2 p3 p4 p5 uw xl r_183 (10 : Int32) pp xx b876) [(.int p5), (.int p4), (.int p3), (.int xx), (.int pp), (.int uw), (.ref r_183), (.int 2), (.int 2), (.ref b876)]) _
   refine st899 _ ?_
   show GO p e below T899 (mkF m 168 (la17 p0 p1 p2 p3 p4 p5 uw xl r_183 (10 : Int32) pp xx b876) [(.int cv_899), (.int 2), (.ref b876)]) _
   refine st906 _ ?_
   show GO p e below T906 (mkF m 169 (la17 p0 p1 p2 p3 p4 p5 uw xl r_183 (10 : Int32) pp xx b876) []) _
   refine XS.iload X906.here hx rfl (hb hby at_169) rfl ?_
   show GO p e below T906 (mkF m 171 (la17 p0 p1 p2 p3 p4 p5 uw xl r_183 (10 : Int32) pp xx b876) [(.int 10)]) _
   refine XS.iconst X906.here hx rfl (hb hby at_171) ?_
   show GO p e below T906 (mkF m 172 (la17 p0 p1 p2 p3 p4 p5 uw xl r_183 (10 : Int32) pp xx b876) [(.int 3), (.int 10)]) _
   refine XS.icmpNo X906.here hx rfl (hb hby at_172) rfl (tlt ((by decide) : (3 : Int32) < (10 : Int32))).2.2.2 ?_
   show GO p e below T906 (mkF m 175 (la17 p0 p1 p2 p3 p4 p5 uw xl r_183 (10 : Int32) pp xx b876) []) _
   refine XS.aload X906.here hx rfl (hb hby at_175) rfl rfl ?_
   show GO p e below T906 (mkF m 177 (la17 p0 p1 p2 p3 p4 p5 uw xl r_183 (10 : Int32) pp xx b876) [(.ref b876)]) _
   refine XS.iconst X906.here hx rfl (hb hby at_177) ?_
   show GO p e below T906 (mkF m 178 (la17 p0 p1 p2 p3 p4 p5 uw xl r_183 (10 : Int32) pp xx b876) [(.int 3), (.ref b876)]) _
   refine XS.iconst X906.here hx rfl (hb hby at_178) ?_
   show GO p e below T906 (mkF m 179 (la17 p0 p1 p2 p3 p4 p5 uw xl r_183 (10 : Int32) pp xx b876) [(.int 3), (.int 3), (.ref b876)]) _
   refine XS.aload X906.here hx rfl (hb hby at_179) rfl rfl ?_
   show GO p e below T906 (mkF m 181 (la17 p0 p1 p2 p3 p4 p5 uw xl r_183 (10 : Int32) pp xx b876) [(.ref r_183), (.int 3), (.int 3), (.ref b876)]) _
   refine XS.iload X906.here hx rfl (hb hby at_181) rfl ?_
   show GO p e below T906 (mkF m 183 (la17 p0 p1 p2 p3 p4 p5 uw xl r_183 (10 : Int32) pp xx b876) [(.int uw), (.ref r_183), (.int 3), (.int 3), (.ref b876)]) _
   refine XS.iload X906.here hx rfl (hb hby at_183) rfl ?_
   show GO p e below T906 (mkF m 185 (la17 p0 p1 p2 p3 p4 p5 uw xl r_183 (10 : Int32) pp xx b876) [(.int pp), (.int uw), (.ref r_183), (.int 3), (.int 3), (.ref b876)]) _
   refine XS.iload X906.here hx rfl (hb hby at_185) rfl ?_
   show GO p e below T906 (mkF m 187 (la17 p0 p1 p2 p3 p4 p5 uw xl r_183 (10 : Int32) pp xx b876) [(.int xx), (.int pp), (.int uw), (.ref r_183), (.int 3), (.int 3), (.ref b876)]) _
   refine XS.iloadN X906.here hx rfl (hb hby at_187) rfl ?_
   show GO p e below T906 (mkF m 188 (la17 p0 p1 p2 p3 p4 p5 uw xl r_183 (10 : Int32) pp xx b876) [(.int p3), (.int xx), (.int pp), (.int uw), (.ref r_183), (.int 3), (.int 3), (.ref b876)]) _
   refine XS.iload X906.here hx rfl (hb hby at_188) rfl ?_
   show GO p e below T906 (mkF m 190 (la17 p0 p1 p2 p3 p4 p5 uw xl r_183 (10 : Int32) pp xx b876) [(.int p4), (.int p3), (.int xx), (.int pp), (.int uw), (.ref r_183), (.int 3), (.int 3), (.ref b876)]) _
   refine XS.iload X906.here hx rfl (hb hby at_190) rfl ?_
   show GO p e below T906 (mkF m 192 (la17 p0 p1 p2 p3 p4 p5 uw xl r_183 (10 : Int32) pp xx b876) [(.int p5), (.int p4), (.int p3), (.int xx), (.int pp), (.int uw), (.ref r_183), (.int 3), (.int 3), (.ref b876)]) _
   refine st908 _ ?_
   show GO p e below T908 (mkF m 195 (la17 p0 p1 p2 p3 p4 p5 uw xl r_183 (10 : Int32) pp xx b876) [(.int cv_908), (.int 3), (.ref b876)]) _
   refine st915 _ ?_
   show GO p e below T915 (mkF m 196 (la17 p0 p1 p2 p3 p4 p5 uw xl r_183 (10 : Int32) pp xx b876) []) _
   refine XS.iload X915.here hx rfl (hb hby at_196) rfl ?_
   show GO p e below T915 (mkF m 198 (la17 p0 p1 p2 p3 p4 p5 uw xl r_183 (10 : Int32) pp xx b876) [(.int 10)]) _
   refine XS.iconst X915.here hx rfl (hb hby at_198) ?_
   show GO p e below T915 (mkF m 199 (la17 p0 p1 p2 p3 p4 p5 uw xl r_183 (10 : Int32) pp xx b876) [(.int 4), (.int 10)]) _
   refine XS.icmpNo X915.here hx rfl (hb hby at_199) rfl (tlt ((by decide) : (4 : Int32) < (10 : Int32))).2.2.2 ?_
   show GO p e below T915 (mkF m 202 (la17 p0 p1 p2 p3 p4 p5 uw xl r_183 (10 : Int32) pp xx b876) []) _
   refine XS.aload X915.here hx rfl (hb hby at_202) rfl rfl ?_
   show GO p e below T915 (mkF m 204 (la17 p0 p1 p2 p3 p4 p5 uw xl r_183 (10 : Int32) pp xx b876) [(.ref b876)]) _
   refine XS.iconst X915.here hx rfl (hb hby at_204) ?_
   show GO p e below T915 (mkF m 205 (la17 p0 p1 p2 p3 p4 p5 uw xl r_183 (10 : Int32) pp xx b876) [(.int 4), (.ref b876)]) _
   refine XS.iconst X915.here hx rfl (hb hby at_205) ?_
   show GO p e below T915 (mkF m 206 (la17 p0 p1 p2 p3 p4 p5 uw xl r_183 (10 : Int32) pp xx b876) [(.int 4), (.int 4), (.ref b876)]) _
   refine XS.aload X915.here hx rfl (hb hby at_206) rfl rfl ?_
   show GO p e below T915 (mkF m 208 (la17 p0 p1 p2 p3 p4 p5 uw xl r_183 (10 : Int32) pp xx b876) [(.ref r_183), (.int 4), (.int 4), (.ref b876)]) _
   refine XS.iload X915.here hx rfl (hb hby at_208) rfl ?_
   show GO p e below T915 (mkF m 210 (la17 p0 p1 p2 p3 p4 p5 uw xl r_183 (10 : Int32) pp xx b876) [(.int uw), (.ref r_183), (.int 4), (.int 4), (.ref b876)]) _
   refine XS.iload X915.here hx rfl (hb hby at_210) rfl ?_
   show GO p e below T915 (mkF m 212 (la17 p0 p1 p2 p3 p4 p5 uw xl r_183 (10 : Int32) pp xx b876) [(.int pp), (.int uw), (.ref r_183), (.int 4), (.int 4), (.ref b876)]) _
   refine XS.iload X915.here hx rfl (hb hby at_212) rfl ?_
   show GO p e below T915 (mkF m 214 (la17 p0 p1 p2 p3 p4 p5 uw xl r_183 (10 : Int32) pp xx b876) [(.int xx), (.int pp), (.int uw), (.ref r_183), (.int 4), (.int 4), (.ref b876)]) _
   refine XS.iloadN X915.here hx rfl (hb hby at_214) rfl ?_
   show GO p e below T915 (mkF m 215 (la17 p0 p1 p2 p3 p4 p5 uw xl r_183 (10 : Int32) pp xx b876) [(.int p3), (.int xx), (.int pp), (.int uw), (.ref r_183), (.int 4), (.int 4), (.ref b876)]) _
   refine XS.iload X915.here hx rfl (hb hby at_215) rfl ?_
   show GO p e below T915 (mkF m 217 (la17 p0 p1 p2 p3 p4 p5 uw xl r_183 (10 : Int32) pp xx b876) [(.int p4), (.int p3), (.int xx), (.int pp), (.int uw), (.ref r_183), (.int 4), (.int 4), (.ref b876)]) _
   refine XS.iload X915.here hx rfl (hb hby at_217) rfl ?_
   show GO p e below T915 (mkF m 219 (la17 p0 p1 p2 p3 p4 p5 uw xl r_183 (10 : Int32) pp xx b876) [(.int p5), (.int p4), (.int p3), (.int xx), (.int pp), (.int uw), (.ref r_183), (.int 4), (.int 4), (.ref b876)]) _
   refine st917 _ ?_
   show GO p e below T917 (mkF m 222 (la17 p0 p1 p2 p3 p4 p5 uw xl r_183 (10 : Int32) pp xx b876) [(.int cv_917), (.int 4), (.ref b876)]) _
   refine st924 _ ?_
   show GO p e below T924 (mkF m 223 (la17 p0 p1 p2 p3 p4 p5 uw xl r_183 (10 : Int32) pp xx b876) []) _
   refine XS.iload X924.here hx rfl (hb hby at_223) rfl ?_
   show GO p e below T924 (mkF m 225 (la17 p0 p1 p2 p3 p4 p5 uw xl r_183 (10 : Int32) pp xx b876) [(.int 10)]) _
   refine XS.iconst X924.here hx rfl (hb hby at_225) ?_
   show GO p e below T924 (mkF m 226 (la17 p0 p1 p2 p3 p4 p5 uw xl r_183 (10 : Int32) pp xx b876) [(.int 5), (.int 10)]) _
   refine XS.icmpNo X924.here hx rfl (hb hby at_226) rfl (tlt ((by decide) : (5 : Int32) < (10 : Int32))).2.2.2 ?_
   show GO p e below T924 (mkF m 229 (la17 p0 p1 p2 p3 p4 p5 uw xl r_183 (10 : Int32) pp xx b876) []) _
   refine XS.aload X924.here hx rfl (hb hby at_229) rfl rfl ?_
   show GO p e below T924 (mkF m 231 (la17 p0 p1 p2 p3 p4 p5 uw xl r_183 (10 : Int32) pp xx b876) [(.ref b876)]) _
   refine XS.iconst X924.here hx rfl (hb hby at_231) ?_
   show GO p e below T924 (mkF m 232 (la17 p0 p1 p2 p3 p4 p5 uw xl r_183 (10 : Int32) pp xx b876) [(.int 5), (.ref b876)]) _
   refine XS.iconst X924.here hx rfl (hb hby at_232) ?_
   show GO p e below T924 (mkF m 233 (la17 p0 p1 p2 p3 p4 p5 uw xl r_183 (10 : Int32) pp xx b876) [(.int 5), (.int 5), (.ref b876)]) _
   refine XS.aload X924.here hx rfl (hb hby at_233) rfl rfl ?_
   show GO p e below T924 (mkF m 235 (la17 p0 p1 p2 p3 p4 p5 uw xl r_183 (10 : Int32) pp xx b876) [(.ref r_183), (.int 5), (.int 5), (.ref b876)]) _
   refine XS.iload X924.here hx rfl (hb hby at_235) rfl ?_
   show GO p e below T924 (mkF m 237 (la17 p0 p1 p2 p3 p4 p5 uw xl r_183 (10 : Int32) pp xx b876) [(.int uw), (.ref r_183), (.int 5), (.int 5), (.ref b876)]) _
   refine XS.iload X924.here hx rfl (hb hby at_237) rfl ?_
   show GO p e below T924 (mkF m 239 (la17 p0 p1 p2 p3 p4 p5 uw xl r_183 (10 : Int32) pp xx b876) [(.int pp), (.int uw), (.ref r_183), (.int 5), (.int 5), (.ref b876)]) _
   refine XS.iload X924.here hx rfl (hb hby at_239) rfl ?_
   show GO p e below T924 (mkF m 241 (la17 p0 p1 p2 p3 p4 p5 uw xl r_183 (10 : Int32) pp xx b876) [(.int xx), (.int pp), (.int uw), (.ref r_183), (.int 5), (.int 5), (.ref b876)]) _
   refine XS.iloadN X924.here hx rfl (hb hby at_241) rfl ?_
   show GO p e below T924 (mkF m 242 (la17 p0 p1 p2 p3 p4 p5 uw xl r_183 (10 : Int32) pp xx b876) [(.int p3), (.int xx), (.int pp), (.int uw), (.ref r_183), (.int 5), (.int 5), (.ref b876)]) _
   refine XS.iload X924.here hx rfl (hb hby at_242) rfl ?_
   show GO p e below T924 (mkF m 244 (la17 p0 p1 p2 p3 p4 p5 uw xl r_183 (10 : Int32) pp xx b876) [(.int p4), (.int p3), (.int xx), (.int pp), (.int uw), (.ref r_183), (.int 5), (.int 5), (.ref b876)]) _
   refine XS.iload X924.here hx rfl (hb hby at_244) rfl ?_
   show GO p e below T924 (mkF m 246 (la17 p0 p1 p2 p3 p4 p5 uw xl r_183 (10 : Int32) pp xx b876) [(.int p5), (.int p4), (.int p3), (.int xx), (.int pp), (.int uw), (.ref r_183), (.int 5), (.int 5), (.ref b876)]) _
   refine st926 _ ?_
   show GO p e below T926 (mkF m 249 (la17 p0 p1 p2 p3 p4 p5 uw xl r_183 (10 : Int32) pp xx b876) [(.int cv_926), (.int 5), (.ref b876)]) _
   refine st933 _ ?_
   show GO p e below T933 (mkF m 250 (la17 p0 p1 p2 p3 p4 p5 uw xl r_183 (10 : Int32) pp xx b876) []) _
   refine XS.iload X933.here hx rfl (hb hby at_250) rfl ?_
   show GO p e below T933 (mkF m 252 (la17 p0 p1 p2 p3 p4 p5 uw xl r_183 (10 : Int32) pp xx b876) [(.int 10)]) _
   refine XS.bipush X933.here hx rfl (hb hby at_252) ?_
   show GO p e below T933 (mkF m 254 (la17 p0 p1 p2 p3 p4 p5 uw xl r_183 (10 : Int32) pp xx b876) [(.int 6), (.int 10)]) _
   refine XS.icmpNo X933.here hx rfl (hb hby at_254) rfl (tlt ((by decide) : (6 : Int32) < (10 : Int32))).2.2.2 ?_
   show GO p e below T933 (mkF m 257 (la17 p0 p1 p2 p3 p4 p5 uw xl r_183 (10 : Int32) pp xx b876) []) _
   refine XS.aload X933.here hx rfl (hb hby at_257) rfl rfl ?_
   show GO p e below T933 (mkF m 259 (la17 p0 p1 p2 p3 p4 p5 uw xl r_183 (10 : Int32) pp xx b876) [(.ref b876)]) _
   refine XS.bipush X933.here hx rfl (hb hby at_259) ?_
   show GO p e below T933 (mkF m 261 (la17 p0 p1 p2 p3 p4 p5 uw xl r_183 (10 : Int32) pp xx b876) [(.int 6), (.ref b876)]) _
   refine XS.bipush X933.here hx rfl (hb hby at_261) ?_
   show GO p e below T933 (mkF m 263 (la17 p0 p1 p2 p3 p4 p5 uw xl r_183 (10 : Int32) pp xx b876) [(.int 6), (.int 6), (.ref b876)]) _
   refine XS.aload X933.here hx rfl (hb hby at_263) rfl rfl ?_
   show GO p e below T933 (mkF m 265 (la17 p0 p1 p2 p3 p4 p5 uw xl r_183 (10 : Int32) pp xx b876) [(.ref r_183), (.int 6), (.int 6), (.ref b876)]) _
   refine XS.iload X933.here hx rfl (hb hby at_265) rfl ?_
   show GO p e below T933 (mkF m 267 (la17 p0 p1 p2 p3 p4 p5 uw xl r_183 (10 : Int32) pp xx b876) [(.int uw), (.ref r_183), (.int 6), (.int 6), (.ref b876)]) _
   refine XS.iload X933.here hx rfl (hb hby at_267) rfl ?_
   show GO p e below T933 (mkF m 269 (la17 p0 p1 p2 p3 p4 p5 uw xl r_183 (10 : Int32) pp xx b876) [(.int pp), (.int uw), (.ref r_183), (.int 6), (.int 6), (.ref b876)]) _
   refine XS.iload X933.here hx rfl (hb hby at_269) rfl ?_
   show GO p e below T933 (mkF m 271 (la17 p0 p1 p2 p3 p4 p5 uw xl r_183 (10 : Int32) pp xx b876) [(.int xx), (.int pp), (.int uw), (.ref r_183), (.int 6), (.int 6), (.ref b876)]) _
   refine XS.iloadN X933.here hx rfl (hb hby at_271) rfl ?_
   show GO p e below T933 (mkF m 272 (la17 p0 p1 p2 p3 p4 p5 uw xl r_183 (10 : Int32) pp xx b876) [(.int p3), (.int xx), (.int pp), (.int uw), (.ref r_183), (.int 6), (.int 6), (.ref b876)]) _
   refine XS.iload X933.here hx rfl (hb hby at_272) rfl ?_
   show GO p e below T933 (mkF m 274 (la17 p0 p1 p2 p3 p4 p5 uw xl r_183 (10 : Int32) pp xx b876) [(.int p4), (.int p3), (.int xx), (.int pp), (.int uw), (.ref r_183), (.int 6), (.int 6), (.ref b876)]) _
   refine XS.iload X933.here hx rfl (hb hby at_274) rfl ?_
   show GO p e below T933 (mkF m 276 (la17 p0 p1 p2 p3 p4 p5 uw xl r_183 (10 : Int32) pp xx b876) [(.int p5), (.int p4), (.int p3), (.int xx), (.int pp), (.int uw), (.ref r_183), (.int 6), (.int 6), (.ref b876)]) _
   refine st935 _ ?_
   show GO p e below T935 (mkF m 279 (la17 p0 p1 p2 p3 p4 p5 uw xl r_183 (10 : Int32) pp xx b876) [(.int cv_935), (.int 6), (.ref b876)]) _
   refine st942 _ ?_
   show GO p e below T942 (mkF m 280 (la17 p0 p1 p2 p3 p4 p5 uw xl r_183 (10 : Int32) pp xx b876) []) _
   refine XS.iload X942.here hx rfl (hb hby at_280) rfl ?_
   show GO p e below T942 (mkF m 282 (la17 p0 p1 p2 p3 p4 p5 uw xl r_183 (10 : Int32) pp xx b876) [(.int 10)]) _
   refine XS.bipush X942.here hx rfl (hb hby at_282) ?_
   show GO p e below T942 (mkF m 284 (la17 p0 p1 p2 p3 p4 p5 uw xl r_183 (10 : Int32) pp xx b876) [(.int 7), (.int 10)]) _
   refine XS.icmpNo X942.here hx rfl (hb hby at_284) rfl (tlt ((by decide) : (7 : Int32) < (10 : Int32))).2.2.2 ?_
   show GO p e below T942 (mkF m 287 (la17 p0 p1 p2 p3 p4 p5 uw xl r_183 (10 : Int32) pp xx b876) []) _
   refine XS.aload X942.here hx rfl (hb hby at_287) rfl rfl ?_
   show GO p e below T942 (mkF m 289 (la17 p0 p1 p2 p3 p4 p5 uw xl r_183 (10 : Int32) pp xx b876) [(.ref b876)]) _
   refine XS.bipush X942.here hx rfl (hb hby at_289) ?_
   show GO p e below T942 (mkF m 291 (la17 p0 p1 p2 p3 p4 p5 uw xl r_183 (10 : Int32) pp xx b876) [(.int 7), (.ref b876)]) _
   refine XS.bipush X942.here hx rfl (hb hby at_291) ?_
   show GO p e below T942 (mkF m 293 (la17 p0 p1 p2 p3 p4 p5 uw xl r_183 (10 : Int32) pp xx b876) [(.int 7), (.int 7), (.ref b876)]) _
   refine XS.aload X942.here hx rfl (hb hby at_293) rfl rfl ?_
   show GO p e below T942 (mkF m 295 (la17 p0 p1 p2 p3 p4 p5 uw xl r_183 (10 : Int32) pp xx b876) [(.ref r_183), (.int 7), (.int 7), (.ref b876)]) _
   refine XS.iload X942.here hx rfl (hb hby at_295) rfl ?_
   show GO p e below T942 (mkF m 297 (la17 p0 p1 p2 p3 p4 p5 uw xl r_183 (10 : Int32) pp xx b876) [(.int uw), (.ref r_183), (.int 7), (.int 7), (.ref b876)]) _
   refine XS.iload X942.here hx rfl (hb hby at_297) rfl ?_
   show GO p e below T942 (mkF m 299 (la17 p0 p1 p2 p3 p4 p5 uw xl r_183 (10 : Int32) pp xx b876) [(.int pp), (.int uw), (.ref r_183), (.int 7), (.int 7), (.ref b876)]) _
   refine XS.iload X942.here hx rfl (hb hby at_299) rfl ?_
   show GO p e below T942 (mkF m 301 (la17 p0 p1 p2 p3 p4 p5 uw xl r_183 (10 : Int32) pp xx b876) [(.int xx), (.int pp), (.int uw), (.ref r_183), (.int 7), (.int 7), (.ref b876)]) _
   refine XS.iloadN X942.here hx rfl (hb hby at_301) rfl ?_
   show GO p e below T942 (mkF m 302 (la17 p0 p1 p2 p3 p4 p5 uw xl r_183 (10 : Int32) pp xx b876) [(.int p3), (.int xx), (.int pp), (.int uw), (.ref r_183), (.int 7), (.int 7), (.ref b876)]) _
   refine XS.iload X942.here hx rfl (hb hby at_302) rfl ?_
   show GO p e below T942 (mkF m 304 (la17 p0 p1 p2 p3 p4 p5 uw xl r_183 (10 : Int32) pp xx b876) [(.int p4), (.int p3), (.int xx), (.int pp), (.int uw), (.ref r_183), (.int 7), (.int 7), (.ref b876)]) _
   refine XS.iload X942.here hx rfl (hb hby at_304) rfl ?_
   show GO p e below T942 (mkF m 306 (la17 p0 p1 p2 p3 p4 p5 uw xl r_183 (10 : Int32) pp xx b876) [(.int p5), (.int p4), (.int p3), (.int xx), (.int pp), (.int uw), (.ref r_183), (.int 7), (.int 7), (.ref b876)]) _
   refine st944 _ ?_
   show GO p e below T944 (mkF m 309 (la17 p0 p1 p2 p3 p4 p5 uw xl r_183 (10 : Int32) pp xx b876) [(.int cv_944), (.int 7), (.ref b876)]) _
   refine st951 _ ?_
   show GO p e below T951 (mkF m 310 (la17 p0 p1 p2 p3 p4 p5 uw xl r_183 (10 : Int32) pp xx b876) []) _
   refine XS.iload X951.here hx rfl (hb hby at_310) rfl ?_
   show GO p e below T951 (mkF m 312 (la17 p0 p1 p2 p3 p4 p5 uw xl r_183 (10 : Int32) pp xx b876) [(.int 10)]) _
   refine XS.bipush X951.here hx rfl (hb hby at_312) ?_
   show GO p e below T951 (mkF m 314 (la17 p0 p1 p2 p3 p4 p5 uw xl r_183 (10 : Int32) pp xx b876) [(.int 8), (.int 10)]) _
   refine XS.icmpNo X951.here hx rfl (hb hby at_314) rfl (tlt ((by decide) : (8 : Int32) < (10 : Int32))).2.2.2 ?_
   show GO p e below T951 (mkF m 317 (la17 p0 p1 p2 p3 p4 p5 uw xl r_183 (10 : Int32) pp xx b876) []) _
   refine XS.aload X951.here hx rfl (hb hby at_317) rfl rfl ?_
   show GO p e below T951 (mkF m 319 (la17 p0 p1 p2 p3 p4 p5 uw xl r_183 (10 : Int32) pp xx b876) [(.ref b876)]) _
   refine XS.bipush X951.here hx rfl (hb hby at_319) ?_
   show GO p e below T951 (mkF m 321 (la17 p0 p1 p2 p3 p4 p5 uw xl r_183 (10 : Int32) pp xx b876) [(.int 8), (.ref b876)]) _
   refine XS.bipush X951.here hx rfl (hb hby at_321) ?_
   show GO p e below T951 (mkF m 323 (la17 p0 p1 p2 p3 p4 p5 uw xl r_183 (10 : Int32) pp xx b876) [(.int 8), (.int 8), (.ref b876)]) _
   refine XS.aload X951.here hx rfl (hb hby at_323) rfl rfl ?_
   show GO p e below T951 (mkF m 325 (la17 p0 p1 p2 p3 p4 p5 uw xl r_183 (10 : Int32) pp xx b876) [(.ref r_183), (.int 8), (.int 8), (.ref b876)]) _
   refine XS.iload X951.here hx rfl (hb hby at_325) rfl ?_
   show GO p e below T951 (mkF m 327 (la17 p0 p1 p2 p3 p4 p5 uw xl r_183 (10 : Int32) pp xx b876) [(.int uw), (.ref r_183), (.int 8), (.int 8), (.ref b876)]) _
   refine XS.iload X951.here hx rfl (hb hby at_327) rfl ?_
   show GO p e below T951 (mkF m 329 (la17 p0 p1 p2 p3 p4 p5 uw xl r_183 (10 : Int32) pp xx b876) [(.int pp), (.int uw), (.ref r_183), (.int 8), (.int 8), (.ref b876)]) _
   refine XS.iload X951.here hx rfl (hb hby at_329) rfl ?_
   show GO p e below T951 (mkF m 331 (la17 p0 p1 p2 p3 p4 p5 uw xl r_183 (10 : Int32) pp xx b876) [(.int xx), (.int pp), (.int uw), (.ref r_183), (.int 8), (.int 8), (.ref b876)]) _
   refine XS.iloadN X951.here hx rfl (hb hby at_331) rfl ?_
   show GO p e below T951 (mkF m 332 (la17 p0 p1 p2 p3 p4 p5 uw xl r_183 (10 : Int32) pp xx b876) [(.int p3), (.int xx), (.int pp), (.int uw), (.ref r_183), (.int 8), (.int 8), (.ref b876)]) _
   refine XS.iload X951.here hx rfl (hb hby at_332) rfl ?_
   show GO p e below T951 (mkF m 334 (la17 p0 p1 p2 p3 p4 p5 uw xl r_183 (10 : Int32) pp xx b876) [(.int p4), (.int p3), (.int xx), (.int pp), (.int uw), (.ref r_183), (.int 8), (.int 8), (.ref b876)]) _
   refine XS.iload X951.here hx rfl (hb hby at_334) rfl ?_
   show GO p e below T951 (mkF m 336 (la17 p0 p1 p2 p3 p4 p5 uw xl r_183 (10 : Int32) pp xx b876) [(.int p5), (.int p4), (.int p3), (.int xx), (.int pp), (.int uw), (.ref r_183), (.int 8), (.int 8), (.ref b876)]) _
   refine st953 _ ?_
   show GO p e below T953 (mkF m 339 (la17 p0 p1 p2 p3 p4 p5 uw xl r_183 (10 : Int32) pp xx b876) [(.int cv_953), (.int 8), (.ref b876)]) _
   refine st960 _ ?_
   show GO p e below T960 (mkF m 340 (la17 p0 p1 p2 p3 p4 p5 uw xl r_183 (10 : Int32) pp xx b876) []) _
   refine XS.iload X960.here hx rfl (hb hby at_340) rfl ?_
   show GO p e below T960 (mkF m 342 (la17 p0 p1 p2 p3 p4 p5 uw xl r_183 (10 : Int32) pp xx b876) [(.int 10)]) _
   refine XS.bipush X960.here hx rfl (hb hby at_342) ?_
   show GO p e below T960 (mkF m 344 (la17 p0 p1 p2 p3 p4 p5 uw xl r_183 (10 : Int32) pp xx b876) [(.int 9), (.int 10)]) _
   refine XS.icmpNo X960.here hx rfl (hb hby at_344) rfl (tlt ((by decide) : (9 : Int32) < (10 : Int32))).2.2.2 ?_
   show GO p e below T960 (mkF m 347 (la17 p0 p1 p2 p3 p4 p5 uw xl r_183 (10 : Int32) pp xx b876) []) _
   refine XS.aload X960.here hx rfl (hb hby at_347) rfl rfl ?_
   show GO p e below T960 (mkF m 349 (la17 p0 p1 p2 p3 p4 p5 uw xl r_183 (10 : Int32) pp xx b876) [(.ref b876)]) _
   refine XS.bipush X960.here hx rfl (hb hby at_349) ?_
   show GO p e below T960 (mkF m 351 (la17 p0 p1 p2 p3 p4 p5 uw xl r_183 (10 : Int32) pp xx b876) [(.int 9), (.ref b876)]) _
   refine XS.bipush X960.here hx rfl (hb hby at_351) ?_
   show GO p e below T960 (mkF m 353 (la17 p0 p1 p2 p3 p4 p5 uw xl r_183 (10 : Int32) pp xx b876) [(.int 9), (.int 9), (.ref b876)]) _
   refine XS.aload X960.here hx rfl (hb hby at_353) rfl rfl ?_
   show GO p e below T960 (mkF m 355 (la17 p0 p1 p2 p3 p4 p5 uw xl r_183 (10 : Int32) pp xx b876) [(.ref r_183), (.int 9), (.int 9), (.ref b876)]) _
   refine XS.iload X960.here hx rfl (hb hby at_355) rfl ?_
   show GO p e below T960 (mkF m 357 (la17 p0 p1 p2 p3 p4 p5 uw xl r_183 (10 : Int32) pp xx b876) [(.int uw), (.ref r_183), (.int 9), (.int 9), (.ref b876)]) _
   refine XS.iload X960.here hx rfl (hb hby at_357) rfl ?_
   show GO p e below T960 (mkF m 359 (la17 p0 p1 p2 p3 p4 p5 uw xl r_183 (10 : Int32) pp xx b876) [(.int pp), (.int uw), (.ref r_183), (.int 9), (.int 9), (.ref b876)]) _
   refine XS.iload X960.here hx rfl (hb hby at_359) rfl ?_
   show GO p e below T960 (mkF m 361 (la17 p0 p1 p2 p3 p4 p5 uw xl r_183 (10 : Int32) pp xx b876) [(.int xx), (.int pp), (.int uw), (.ref r_183), (.int 9), (.int 9), (.ref b876)]) _
   refine XS.iloadN X960.here hx rfl (hb hby at_361) rfl ?_
   show GO p e below T960 (mkF m 362 (la17 p0 p1 p2 p3 p4 p5 uw xl r_183 (10 : Int32) pp xx b876) [(.int p3), (.int xx), (.int pp), (.int uw), (.ref r_183), (.int 9), (.int 9), (.ref b876)]) _
   refine XS.iload X960.here hx rfl (hb hby at_362) rfl ?_
   show GO p e below T960 (mkF m 364 (la17 p0 p1 p2 p3 p4 p5 uw xl r_183 (10 : Int32) pp xx b876) [(.int p4), (.int p3), (.int xx), (.int pp), (.int uw), (.ref r_183), (.int 9), (.int 9), (.ref b876)]) _
   refine XS.iload X960.here hx rfl (hb hby at_364) rfl ?_
   show GO p e below T960 (mkF m 366 (la17 p0 p1 p2 p3 p4 p5 uw xl r_183 (10 : Int32) pp xx b876) [(.int p5), (.int p4), (.int p3), (.int xx), (.int pp), (.int uw), (.ref r_183), (.int 9), (.int 9), (.ref b876)]) _
   refine st962 _ ?_
   show GO p e below T962 (mkF m 369 (la17 p0 p1 p2 p3 p4 p5 uw xl r_183 (10 : Int32) pp xx b876) [(.int cv_962), (.int 9), (.ref b876)]) _
   refine st969 _ ?_
   show GO p e below T969 (mkF m 370 (la17 p0 p1 p2 p3 p4 p5 uw xl r_183 (10 : Int32) pp xx b876) []) _
   refine st972 _ ?_
   show GO p e below T972 (mkF m 373 (la17 p0 p1 p2 p3 p4 p5 uw xl r_183 (10 : Int32) pp xx b876) [(.ref b972)]) _
   refine XS.dup X972.here hx rfl (hb hby at_373) rfl rfl ?_
   show GO p e below T972 (mkF m 374 (la17 p0 p1 p2 p3 p4 p5 uw xl r_183 (10 : Int32) pp xx b876) [(.ref b972), (.ref b972)]) _
   refine XS.aload X972.here hx rfl (hb hby at_374) rfl rfl ?_
   show GO p e below T972 (mkF m 376 (la17 p0 p1 p2 p3 p4 p5 uw xl r_183 (10 : Int32) pp xx b876) [(.ref b876), (.ref b972), (.ref b972)]) _
   refine st979.trans ?_
   show GO p e below T979 (mkF m 379 (la17 p0 p1 p2 p3 p4 p5 uw xl r_183 (10 : Int32) pp xx b876) [(.ref b972)]) _
   refine XS.astore X979.here hx rfl (hb hby at_379) rfl rfl (l' := (la18 p0 p1 p2 p3 p4 p5 uw xl r_183 (10 : Int32) pp xx b876 b972)) rfl ?_
   show GO p e below T979 (mkF m 381 (la18 p0 p1 p2 p3 p4 p5 uw xl r_183 (10 : Int32) pp xx b876 b972) []) _
   refine XS.aload X979.here hx rfl (hb hby at_381) rfl rfl ?_
   show GO p e below T979 (mkF m 383 (la18 p0 p1 p2 p3 p4 p5 uw xl r_183 (10 : Int32) pp xx b876 b972) [(.ref b972)]) _
   refine st983 _ ?_
   show GO p e below T983 (mkF m 386 (la18 p0 p1 p2 p3 p4 p5 uw xl r_183 (10 : Int32) pp xx b876 b972) [(own_pick ([cv_878, cv_889, cv_899, cv_908, cv_917, cv_926, cv_935, cv_944, cv_953, cv_962] : List Int32) u0 u1 u2 u3)]) _
   refine XS.aload X983.here hx rfl (hb hby at_386) rfl rfl ?_
   show GO p e below T983 (mkF m 388 (la18 p0 p1 p2 p3 p4 p5 uw xl r_183 (10 : Int32) pp xx b876 b972) [(.ref b972), (own_pick ([cv_878, cv_889, cv_899, cv_908, cv_917, cv_926, cv_935, cv_944, cv_953, cv_962] : List Int32) u0 u1 u2 u3)]) _
   refine st987.trans ?_
   show GO p e below T987 (mkF m 391 (la18 p0 p1 p2 p3 p4 p5 uw xl r_183 (10 : Int32) pp xx b876 b972) [(own_pick ([cv_878, cv_889, cv_899, cv_908, cv_917, cv_926, cv_935, cv_944, cv_953, cv_962] : List Int32) u0 u1 u2 u3), (own_pick ([cv_878, cv_889, cv_899, cv_908, cv_917, cv_926, cv_935, cv_944, cv_953, cv_962] : List Int32) u0 u1 u2 u3)]) _
   refine Jvm.RoadKit.acmp (g := (mkF m 391 (la18 p0 p1 p2 p3 p4 p5 uw xl r_183 (10 : Int32) pp xx b876 b972) [(own_pick ([cv_878, cv_889, cv_899, cv_908, cv_917, cv_926, cv_935, cv_944, cv_953, cv_962] : List Int32) u0 u1 u2 u3), (own_pick ([cv_878, cv_889, cv_899, cv_908, cv_917, cv_926, cv_935, cv_944, cv_953, cv_962] : List Int32) u0 u1 u2 u3)])) X987 hx rfl (own_pickref _ _ _ _ _) (own_pickref _ _ _ _ _) (pc0 := 391) (pc' := 394) (same := true) rfl (hb hby at_391) rfl (decide_eq_true rfl) (by decide) (by decide) ?_
   show GO p e below T987 (mkF m 394 (la18 p0 p1 p2 p3 p4 p5 uw xl r_183 (10 : Int32) pp xx b876 b972) []) _
   refine XS.iconst X987.here hx rfl (hb hby at_394) ?_
   show GO p e below T987 (mkF m 395 (la18 p0 p1 p2 p3 p4 p5 uw xl r_183 (10 : Int32) pp xx b876 b972) [(.int 1)]) _
   refine XS.goto X987.here hx rfl (pc0 := 395) (pc' := 399) rfl (hb hby at_395) (by decide) (by decide) ?_
   show GO p e below T987 (mkF m 399 (la18 p0 p1 p2 p3 p4 p5 uw xl r_183 (10 : Int32) pp xx b876 b972) [(.int 1)]) _
   exact retN X987 hx (t := .boolean) Bd.returns (by simp) (hb hby at_399) hr
  ·show Qrm0 Z p0 p1 p2 p3 p4 p5 z0 f0 va u0 u1 u2 u3 w0 w1 w2 w3 y0 y1 y2 y3 kV b0 b1 b2 b3 h0 n0 _ T987.heap _
   rw [e987]
   exact ⟨rfl, N987⟩
  ·show CHr Z EL1 s.vm s.heap T987.vm T987.heap
   rw [hh, e987]
   exact CE
theorem comes_1 {Post : Tables → Env → Array Value → State → Outcome → State → Prop} (hpost : ∀ tb e args s v u, (limb_1_1.after args s (.returned v) u = true ∧ limb_1_2.after args s (.returned v) u = true ∧ True) → Jvm.D.FramedW s (.returned v) u (Jvm.fieldLocs frame_1_writes args s ++ Jvm.arrayLocs frame_1_arrays args s ++ Jvm.staticLocs frame_1_statics s) 32 5312 → Post tb e args s (.returned v) u) :
  ArmFor flags0 classFile x code maxLocals ret World_1 tables_1 room_1 Calls_1 rest_1 Pre_1 Post := by
 intro l hfl _ _ p e ha hc hk s m args below hf hA hF happ hP
 obtain ⟨hcalls, hrest, hpre⟩ := hP
 obtain ⟨-, -, -, hnamed, -, -, -, hat⟩ := (Spec.applies_iff hf).mp happ
 obtain ⟨hg, hn⟩ := and_e (Cond.before_iff.mp (show (Jvm.Cond.and given_1 narrow_1).before args s = true from hpre))
 obtain ⟨g0a, g0b⟩ := and_e hg
 obtain ⟨g1a, g1b⟩ := and_e g0b
 obtain ⟨g2a, g2b⟩ := and_e g1b
 obtain ⟨g3a, g3b⟩ := and_e g2b
 obtain ⟨g4a, g4b⟩ := and_e g3b
 obtain ⟨g5a, g5b⟩ := and_e g4b
 obtain ⟨w0, w1, w2, w3, w4, w5, rfl⟩ : ∃ w0 w1 w2 w3 w4 w5 : Value, args = #[w0, w1, w2, w3, w4, w5] := by
  have hs : args.size = 6 := by simpa [Cond.value, given_1] using g0a
  obtain ⟨L⟩ := args
  match L, hs with
  | [w0, w1, w2, w3, w4, w5], _ => exact ⟨w0, w1, w2, w3, w4, w5, rfl⟩
 have hw := fun d (hd : d ∈ tables_1) => atoms_spec (ws := Jvm.Cond.code x code maxLocals ret :: tables_1) hat d (List.mem_cons_of_mem _ hd)
 have hfit : Fit s := fun {y c} hc i hi => by
  obtain ⟨ha, rfl⟩ := Array.getElem?_eq_some_iff.mp hc
  have q := List.all_eq_true.mp ((Array.all_eq_true_iff_forall_mem.mp hF) _ (Array.getElem_mem ha)) i (List.mem_range.mpr hi)
  simpa [Array.getElem?_eq_getElem hi] using q
 obtain ⟨hsets, hown0⟩ := atoms_of _ (rest_1_c_eq ▸ (show rest_1_c.before _ s = true from hrest))
 have hr0 := Cond.before_iff.mp hown0
 obtain ⟨i0, ei0⟩ := is_v g1a
 obtain rfl : w0 = (.int i0) := Option.some.inj ei0
 obtain ⟨i1, ei1⟩ := is_v g2a
 obtain rfl : w1 = (.int i1) := Option.some.inj ei1
 obtain ⟨i2, ei2⟩ := is_v g3a
 obtain rfl : w2 = (.int i2) := Option.some.inj ei2
 obtain ⟨i3, ei3⟩ := is_v g4a
 obtain rfl : w3 = (.int i3) := Option.some.inj ei3
 obtain ⟨i4, ei4⟩ := is_v g5a
 obtain rfl : w4 = (.int i4) := Option.some.inj ei4
 obtain ⟨i5, ei5⟩ := is_v g5b
 obtain rfl : w5 = (.int i5) := Option.some.inj ei5
 have n3 := not_v (Cond.before_iff.mp (hsets _ (List.mem_of_getElem? (i := 2) rfl)))
 obtain ⟨z0, ez0⟩ := is_v (Cond.before_iff.mp (hsets _ (List.mem_of_getElem? (i := 1) rfl)))
 have SZ0 : Sta s s.heap kS0 "COMPACT_STRINGS" "Z" (.int z0) := Sta.start ez0 (Or.inl (hsets _ (List.mem_of_getElem? (i := 0) rfl)))
 have hz0 : ¬ (z0 = (0 : Int32)) := gotF (Cond.eq_ints ez0 (Term.int_eval (0))) n3
 obtain ⟨f0, ef0, rf0⟩ := isR_v (Cond.before_iff.mp (hsets _ (List.mem_of_getElem? (i := 8) rfl)))
 have SF0 : Sta s s.heap "jdk/internal/util/Preconditions" "SIOOBE_FORMATTER" "Ljava/util/function/BiFunction;" f0 := Sta.start ef0 (Or.inl (hsets _ (List.mem_of_getElem? (i := 7) rfl)))
 have H0 : CHv s EL1 s.vm s.heap := CHv.start (own_EW hw) (fun p hp => hcalls.1 p (own_ELin p hp)) (hsets _ (List.mem_of_getElem? (i := 2) rfl)) (own_wb hw) (own_wi hw)
 obtain ⟨va, u0, u1, u2, u3, w0, w1, w2, w3, y0, y1, y2, y3, kV, b0, b1, b2, b3, HK⟩ := own_narrow hfit hw hn
 obtain ⟨n, o, h1, h2, h3, _, L, rfl, ⟨rfl, N⟩, -, hq⟩ := rm0 l s _ hw tables_1 i0 i1 i2 i3 i4 i5 z0 f0 va u0 u1 u2 u3 w0 w1 w2 w3 y0 y1 y2 y3 kV b0 b1 b2 b3 s.heap s.heap.size (Nat.le_refl _) (Old.start s) SZ0 hz0 SF0 rf0 HK p e ha hc hk s m _ below hf ((Spec.applies_iff_loose hf).mp happ).1 ⟨rfl, State.Warmed39.refl s, rfl, H0, fun _ h => absurd h (List.not_mem_nil)⟩ trivial
 refine ⟨n, _, h1, h2, h3, hpost _ _ _ _ _ _ ⟨Cond.after_iff.mpr rfl, Cond.after_iff.mpr (eq_i res_at (Term.int_eval (1)) rfl), trivial⟩ ⟨hq.1, hq.2.1, hq.2.2.1, (hq.2.2.2.sift fun y hy => Or.inr (N y hy)).mono (by decide) (by decide)⟩⟩
theorem main_1_1 : Claimed_1_1 := comes_1 fun _ _ _ _ _ _ h hF => ⟨h.1, hF⟩
theorem main_1_2 : Claimed_1_2 := comes_1 fun _ _ _ _ _ _ h hF => ⟨h.2.1, hF⟩
end Jvm.Pilot.@@N@@
namespace Jvm.Pilot.@@N@@
open Jvm Jvm.ClassFile Sem Op Lib Jvm.Free Jvm.Stand Jvm.Pilot.@@N@@.Jvm.D
/-! MADE BY PROGRAM (witnessworld.py) out of the Statement's table words and the real class files: 22 classes; the members and pool entries that the words name. The judged class is class 1, her method 1. -/
namespace start1
open Jvm.ClassFile
def u (s : String) : CpInfo := .utf8 (stringToUtf16 s)
/-- a pool by its gaps: so many unusable entries, then the entry; so many at the end -/
def gap : Nat → List CpInfo → List CpInfo
  | 0, r => r
  | n + 1, r => .unusable :: gap n r
def poolList (es : List (Nat × CpInfo)) (last : Nat) : List CpInfo := es.foldr (fun e r => gap e.1 (e.2 :: r)) (gap last [])
def pool (es : List (Nat × CpInfo)) (last : Nat) : Array CpInfo := ⟨poolList es last⟩
def fileOf (pool : Array CpInfo) (this : Nat) (attrs : Array Attribute := #[]) (ms : Array MethodInfo := #[]) (fl : Nat := 33) (sup : Nat := 0) (ifs : Array Nat := #[]) (fds : Array FieldInfo := #[]) : ClassFile where
  minorVersion := 0
  majorVersion := 65
  constantPool := pool
  accessFlags := fl
  thisClass := this
  superClass := sup
  interfaces := ifs
  fields := fds
  methods := ms
  attributes := attrs
def plain (name : String) (sup : Option ClassId) : Class where
  name := name
  kind := .ordinary
  loader := none
  accessFlags := 33
  super := sup
  interfaces := #[]
  cf := none
  fields := #[]
  methods := #[]
  instanceTypes := #[]
  staticTypes := #[]
  resolved := #[]
  callSites := []
  init := .initialized
  statics := none
  mirror := none

def pool0 : Array CpInfo := pool [(5, u "<init>"), (0, u "()V"), (1, .class_ 10), (1, u "java/lang/Object"), (85, u "clone"), (0, u "()Ljava/lang/Object;")] 26

def k0c0 : Code := { maxStack := 0, maxLocals := 1, code := object_method_1_code, exceptionTable := #[], attributes := #[] }
def k0m0 : Method := { name := "<init>", desc := "()V", sig := { parameters := [], returnType := none }, accessFlags := 1, code := some k0c0 }
def k0m1 : Method := { name := "clone", desc := "()Ljava/lang/Object;", sig := { parameters := [], returnType := some (.object "java/lang/Object") }, accessFlags := 260, code := none }
/-- java/lang/Object -/
def k0 : Class := { plain "java/lang/Object" none with
  accessFlags := 33
  interfaces := #[]
  cf := some (fileOf pool0 8 #[] #[{ accessFlags := 1, nameIndex := 5, descriptorIndex := 6, attributes := #[] }, { accessFlags := 260, nameIndex := 96, descriptorIndex := 97, attributes := #[] }] 33 0 #[] #[])
  fields := #[]
  methods := #[k0m0, k0m1]
  instanceTypes := #[]
  staticTypes := #[]
  resolved := Array.replicate 124 none
  statics := none }

def pool1 : Array CpInfo := pool [(2, .class_ 4), (1, u "java/lang/Object"), (0, u "<init>"), (0, u "()V"), (0, .methodref 8 9), (0, .class_ 10), (0, .nameAndType 11 12), (0, u "com/example/rolegrant/rolegrant/policy/KindNamedPinLaw"), (0, u "word"), (0, u "(I)Ljava/lang/String;"), (0, .methodref 14 15), (0, .class_ 16), (0, .nameAndType 17 18), (0, u "java/lang/String"), (0, u "length"), (0, u "()I"), (0, .integer 2147483647), (0, .methodref 8 21), (0, .nameAndType 22 23), (0, u "at"), (0, u "(ILjava/lang/String;ZICIII)C"), (0, .methodref 14 25), (0, .nameAndType 5 26), (0, u "([C)V"), (0, .methodref 28 29), (0, .class_ 30), (0, .nameAndType 31 32), (0, u "com/example/rolegrant/rolegrant/policy/Kind"), (0, u "named"), (0, u "(Ljava/lang/String;)Lcom/example/rolegrant/rolegrant/policy/Kind;"), (0, .methodref 8 34), (0, .nameAndType 35 32), (0, u "expected"), (0, .string 37), (0, u "user"), (0, .string 39), (0, u "group"), (0, .string 41), (0, u "role"), (0, .string 43), (0, u "privilege"), (0, .methodref 14 45), (0, .nameAndType 46 47), (0, u "equals"), (0, u "(Ljava/lang/Object;)Z"), (0, .fieldref 28 49), (0, .nameAndType 50 51), (0, u "USER"), (0, u "Lcom/example/rolegrant/rolegrant/policy/Kind;"), (0, .fieldref 28 53), (0, .nameAndType 54 51), (0, u "GROUP"), (0, .fieldref 28 56), (0, .nameAndType 57 51), (0, u "ROLE"), (0, .fieldref 28 59), (0, .nameAndType 60 51), (0, u "PRIVILEGE"), (0, .methodref 14 62), (0, .nameAndType 63 64), (0, u "charAt"), (0, u "(I)C"), (0, .methodref 8 66), (0, .nameAndType 67 68), (0, u "drawn"), (0, u "(IIII)C"), (2, u "law"), (0, u "(IIIIII)Z")] 5

def k1m0 : Method := { name := "<init>", desc := "()V", sig := { parameters := [], returnType := none }, accessFlags := 1, code := none }
def k1c1 : Code := { maxStack := 10, maxLocals := 14, code := code, exceptionTable := #[], attributes := #[] }
def k1m1 : Method := { name := "law", desc := "(IIIIII)Z", sig := { parameters := [.int, .int, .int, .int, .int, .int], returnType := some .boolean }, accessFlags := 9, code := some k1c1 }
def k1c2 : Code := { maxStack := 2, maxLocals := 1, code := method_3_code, exceptionTable := #[], attributes := #[] }
def k1m2 : Method := { name := "word", desc := "(I)Ljava/lang/String;", sig := { parameters := [.int], returnType := some (.object "java/lang/String") }, accessFlags := 10, code := some k1c2 }
def k1c3 : Code := { maxStack := 2, maxLocals := 1, code := method_4_code, exceptionTable := #[], attributes := #[] }
def k1m3 : Method := { name := "expected", desc := "(Ljava/lang/String;)Lcom/example/rolegrant/rolegrant/policy/Kind;", sig := { parameters := [(.object "java/lang/String")], returnType := some (.object "com/example/rolegrant/rolegrant/policy/Kind") }, accessFlags := 10, code := some k1c3 }
def k1c4 : Code := { maxStack := 2, maxLocals := 6, code := method_5_code, exceptionTable := #[], attributes := #[] }
def k1m4 : Method := { name := "drawn", desc := "(IIII)C", sig := { parameters := [.int, .int, .int, .int], returnType := some .char }, accessFlags := 10, code := some k1c4 }
def k1c5 : Code := { maxStack := 4, maxLocals := 8, code := method_6_code, exceptionTable := #[], attributes := #[] }
def k1m5 : Method := { name := "at", desc := "(ILjava/lang/String;ZICIII)C", sig := { parameters := [.int, (.object "java/lang/String"), .boolean, .int, .char, .int, .int, .int], returnType := some .char }, accessFlags := 10, code := some k1c5 }
/-- com/example/rolegrant/rolegrant/policy/KindNamedPinLaw -/
def k1 : Class := { plain "com/example/rolegrant/rolegrant/policy/KindNamedPinLaw" (some 0) with
  accessFlags := 49
  interfaces := #[]
  cf := some (fileOf pool1 8 #[] #[{ accessFlags := 1, nameIndex := 5, descriptorIndex := 6, attributes := #[] }, { accessFlags := 9, nameIndex := 71, descriptorIndex := 72, attributes := #[] }, { accessFlags := 10, nameIndex := 11, descriptorIndex := 12, attributes := #[] }, { accessFlags := 10, nameIndex := 35, descriptorIndex := 32, attributes := #[] }, { accessFlags := 10, nameIndex := 67, descriptorIndex := 68, attributes := #[] }, { accessFlags := 10, nameIndex := 22, descriptorIndex := 23, attributes := #[] }] 49 2 #[] #[])
  fields := #[]
  methods := #[k1m0, k1m1, k1m2, k1m3, k1m4, k1m5]
  instanceTypes := #[]
  staticTypes := #[]
  resolved := Array.replicate 78 none
  statics := none }

def pool2 : Array CpInfo := pool [(1, .class_ 2), (0, u "java/io/Serializable"), (0, .class_ 4), (0, u "java/lang/Object")] 2

/-- java/io/Serializable -/
def k2 : Class := { plain "java/io/Serializable" (some 0) with
  accessFlags := 1537
  interfaces := #[]
  cf := some (fileOf pool2 1 #[] #[] 1537 3 #[] #[])
  fields := #[]
  methods := #[]
  instanceTypes := #[]
  staticTypes := #[]
  resolved := Array.replicate 7 none
  statics := none }

def pool3 : Array CpInfo := pool [(1, .class_ 2), (0, u "java/lang/Comparable"), (0, .class_ 4), (0, u "java/lang/Object")] 7

/-- java/lang/Comparable -/
def k3 : Class := { plain "java/lang/Comparable" (some 0) with
  accessFlags := 1537
  interfaces := #[]
  cf := some (fileOf pool3 1 #[] #[] 1537 3 #[] #[])
  fields := #[]
  methods := #[]
  instanceTypes := #[]
  staticTypes := #[]
  resolved := Array.replicate 12 none
  statics := none }

def pool4 : Array CpInfo := pool [(2, .class_ 4), (1, u "java/lang/CharSequence"), (42, .class_ 48), (0, u "java/lang/CharSequence$1CodePointIterator"), (10, .class_ 60), (0, u "java/lang/CharSequence$1CharIterator"), (5, .class_ 67), (0, u "java/lang/Object")] 63

/-- java/lang/CharSequence -/
def k4 : Class := { plain "java/lang/CharSequence" (some 0) with
  accessFlags := 1537
  interfaces := #[]
  cf := some (fileOf pool4 2 #[.nestMembers #[47, 59]] #[] 1537 66 #[] #[])
  fields := #[]
  methods := #[]
  instanceTypes := #[]
  staticTypes := #[]
  resolved := Array.replicate 131 none
  statics := none }

def pool5 : Array CpInfo := pool [(1, .class_ 2), (0, u "java/lang/constant/Constable"), (0, .class_ 4), (0, u "java/lang/Object")] 6

/-- java/lang/constant/Constable -/
def k5 : Class := { plain "java/lang/constant/Constable" (some 0) with
  accessFlags := 1537
  interfaces := #[]
  cf := some (fileOf pool5 1 #[] #[] 1537 3 #[] #[])
  fields := #[]
  methods := #[]
  instanceTypes := #[]
  staticTypes := #[]
  resolved := Array.replicate 11 none
  statics := none }

def pool6 : Array CpInfo := pool [(1, .class_ 2), (0, u "java/lang/constant/ConstantDesc"), (0, .class_ 4), (0, u "java/lang/Object")] 32

/-- java/lang/constant/ConstantDesc -/
def k6 : Class := { plain "java/lang/constant/ConstantDesc" (some 0) with
  accessFlags := 1537
  interfaces := #[]
  cf := some (fileOf pool6 1 #[] #[] 1537 3 #[] #[])
  fields := #[]
  methods := #[]
  instanceTypes := #[]
  staticTypes := #[]
  resolved := Array.replicate 37 none
  statics := none }

def pool7 : Array CpInfo := pool [(1, .methodref 2 3), (0, .class_ 4), (0, .nameAndType 5 6), (0, u "java/lang/Object"), (0, u "<init>"), (0, u "()V"), (0, .string 8), (0, u ""), (0, .fieldref 10 11), (0, .class_ 12), (0, .nameAndType 13 14), (0, u "java/lang/String"), (0, u "value"), (0, u "[B"), (0, .fieldref 10 16), (0, .nameAndType 17 18), (0, u "coder"), (0, u "B"), (2, u "hash"), (0, u "I"), (2, u "hashIsZero"), (0, u "Z"), (0, .methodref 10 28), (0, .nameAndType 5 29), (0, u "([CIILjava/lang/Void;)V"), (8, .fieldref 10 39), (0, .nameAndType 40 26), (0, u "COMPACT_STRINGS"), (1, .class_ 44), (1, u "java/lang/StringUTF16"), (0, u "compress"), (1, .methodref 42 48), (0, .nameAndType 49 50), (0, u "coderFromArrayLen"), (0, u "([BI)B"), (56, .class_ 109), (1, u "java/lang/StringLatin1"), (32, u "()Z"), (34, .methodref 42 178), (0, .nameAndType 45 179), (0, u "([CII)[B"), (154, u "()I"), (0, .methodref 10 336), (0, .nameAndType 17 337), (0, u "()B"), (25, u "([BI)C"), (27, u "(II)V"), (35, u "(I)C"), (64, .methodref 10 493), (0, .nameAndType 494 142), (0, u "isLatin1"), (0, .methodref 107 496), (0, .nameAndType 497 363), (0, u "charAt"), (3, u "checkIndex"), (5, u "length"), (33, .methodref 107 542), (0, .nameAndType 543 544), (0, u "equals"), (0, u "([B[B)Z"), (28, u "(Ljava/lang/Object;)Z"), (1, .class_ 576), (0, u "java/lang/CharSequence"), (22, u "CASE_INSENSITIVE_ORDER"), (0, u "Ljava/util/Comparator;"), (409, u "([C)V"), (42, .fieldref 1054 1055), (0, .class_ 1056), (0, .nameAndType 1057 1058), (0, u "jdk/internal/util/Preconditions"), (0, u "SIOOBE_FORMATTER"), (0, u "Ljava/util/function/BiFunction;"), (0, .methodref 1054 1060), (0, .nameAndType 501 1061), (0, u "(IILjava/util/function/BiFunction;)I"), (39, u "serialPersistentFields"), (0, u "[Ljava/io/ObjectStreamField;"), (0, .class_ 1104), (0, u "java/lang/String$CaseInsensitiveComparator"), (1, .class_ 1107), (0, u "java/io/Serializable"), (0, .class_ 1109), (0, u "java/lang/Comparable"), (0, .class_ 1111), (0, u "java/lang/constant/Constable"), (0, .class_ 1113), (0, u "java/lang/constant/ConstantDesc"), (2, u "serialVersionUID"), (0, u "J"), (3, u "REPL"), (0, u "C"), (2, u "LATIN1"), (1, u "UTF16")] 323

def k7m0 : Method := { name := "<init>", desc := "()V", sig := { parameters := [], returnType := none }, accessFlags := 1, code := none }
def k7c1 : Code := { maxStack := 5, maxLocals := 2, code := jdk_42_method_3_code, exceptionTable := #[], attributes := #[] }
def k7m1 : Method := { name := "<init>", desc := "([C)V", sig := { parameters := [(.array .char)], returnType := none }, accessFlags := 1, code := some k7c1 }
def k7c2 : Code := { maxStack := 2, maxLocals := 1, code := jdk_42_method_54_code, exceptionTable := #[], attributes := #[] }
def k7m2 : Method := { name := "length", desc := "()I", sig := { parameters := [], returnType := some .int }, accessFlags := 1, code := some k7c2 }
def k7c3 : Code := { maxStack := 2, maxLocals := 2, code := jdk_42_method_56_code, exceptionTable := #[], attributes := #[] }
def k7m3 : Method := { name := "charAt", desc := "(I)C", sig := { parameters := [.int], returnType := some .char }, accessFlags := 1, code := some k7c3 }
def k7c4 : Code := { maxStack := 2, maxLocals := 3, code := jdk_42_method_66_code, exceptionTable := #[], attributes := #[] }
def k7m4 : Method := { name := "equals", desc := "(Ljava/lang/Object;)Z", sig := { parameters := [(.object "java/lang/Object")], returnType := some .boolean }, accessFlags := 1, code := some k7c4 }
def k7c5 : Code := { maxStack := 4, maxLocals := 6, code := jdk_42_method_149_code, exceptionTable := #[], attributes := #[] }
def k7m5 : Method := { name := "<init>", desc := "([CIILjava/lang/Void;)V", sig := { parameters := [(.array .char), .int, .int, (.object "java/lang/Void")], returnType := none }, accessFlags := 2, code := some k7c5 }
def k7c6 : Code := { maxStack := 1, maxLocals := 1, code := jdk_42_method_152_code, exceptionTable := #[], attributes := #[] }
def k7m6 : Method := { name := "coder", desc := "()B", sig := { parameters := [], returnType := some .byte }, accessFlags := 0, code := some k7c6 }
def k7c7 : Code := { maxStack := 1, maxLocals := 1, code := jdk_42_method_154_code, exceptionTable := #[], attributes := #[] }
def k7m7 : Method := { name := "isLatin1", desc := "()Z", sig := { parameters := [], returnType := some .boolean }, accessFlags := 0, code := some k7c7 }
def k7c8 : Code := { maxStack := 3, maxLocals := 2, code := jdk_42_method_155_code, exceptionTable := #[], attributes := #[] }
def k7m8 : Method := { name := "checkIndex", desc := "(II)V", sig := { parameters := [.int, .int], returnType := none }, accessFlags := 8, code := some k7c8 }
/-- java/lang/String -/
def k7 : Class := { plain "java/lang/String" (some 0) with
  accessFlags := 49
  interfaces := #[2, 3, 4, 5, 6]
  cf := some (fileOf pool7 10 #[.nestMembers #[1103]] #[{ accessFlags := 1, nameIndex := 5, descriptorIndex := 6, attributes := #[] }, { accessFlags := 1, nameIndex := 5, descriptorIndex := 1010, attributes := #[] }, { accessFlags := 1, nameIndex := 507, descriptorIndex := 334, attributes := #[] }, { accessFlags := 1, nameIndex := 497, descriptorIndex := 427, attributes := #[] }, { accessFlags := 1, nameIndex := 543, descriptorIndex := 573, attributes := #[] }, { accessFlags := 2, nameIndex := 5, descriptorIndex := 29, attributes := #[] }, { accessFlags := 0, nameIndex := 17, descriptorIndex := 337, attributes := #[] }, { accessFlags := 0, nameIndex := 494, descriptorIndex := 142, attributes := #[] }, { accessFlags := 8, nameIndex := 501, descriptorIndex := 391, attributes := #[] }] 49 2 #[1106, 1108, 575, 1110, 1112] #[{ accessFlags := 18, nameIndex := 13, descriptorIndex := 14, attributes := #[] }, { accessFlags := 18, nameIndex := 17, descriptorIndex := 18, attributes := #[] }, { accessFlags := 2, nameIndex := 21, descriptorIndex := 22, attributes := #[] }, { accessFlags := 2, nameIndex := 25, descriptorIndex := 26, attributes := #[] }, { accessFlags := 26, nameIndex := 1116, descriptorIndex := 1117, attributes := #[] }, { accessFlags := 24, nameIndex := 40, descriptorIndex := 26, attributes := #[] }, { accessFlags := 26, nameIndex := 1101, descriptorIndex := 1102, attributes := #[] }, { accessFlags := 26, nameIndex := 1121, descriptorIndex := 1122, attributes := #[] }, { accessFlags := 25, nameIndex := 599, descriptorIndex := 600, attributes := #[] }, { accessFlags := 24, nameIndex := 1125, descriptorIndex := 18, attributes := #[] }, { accessFlags := 24, nameIndex := 1127, descriptorIndex := 18, attributes := #[] }])
  fields := #[{ name := "value", type := (.array .byte), accessFlags := 18, slot := 0, constantValue := 0 }, { name := "coder", type := .byte, accessFlags := 18, slot := 1, constantValue := 0 }, { name := "hash", type := .int, accessFlags := 2, slot := 2, constantValue := 0 }, { name := "hashIsZero", type := .boolean, accessFlags := 2, slot := 3, constantValue := 0 }, { name := "serialVersionUID", type := .long, accessFlags := 26, slot := 0, constantValue := 0 }, { name := "COMPACT_STRINGS", type := .boolean, accessFlags := 24, slot := 1, constantValue := 0 }, { name := "serialPersistentFields", type := (.array (.object "java/io/ObjectStreamField")), accessFlags := 26, slot := 2, constantValue := 0 }, { name := "REPL", type := .char, accessFlags := 26, slot := 3, constantValue := 0 }, { name := "CASE_INSENSITIVE_ORDER", type := (.object "java/util/Comparator"), accessFlags := 25, slot := 4, constantValue := 0 }, { name := "LATIN1", type := .byte, accessFlags := 24, slot := 5, constantValue := 0 }, { name := "UTF16", type := .byte, accessFlags := 24, slot := 6, constantValue := 0 }]
  methods := #[k7m0, k7m1, k7m2, k7m3, k7m4, k7m5, k7m6, k7m7, k7m8]
  instanceTypes := #[(.array .byte), .byte, .int, .boolean]
  staticTypes := #[.long, .boolean, (.array (.object "java/io/ObjectStreamField")), .char, (.object "java/util/Comparator"), .byte, .byte]
  resolved := Array.replicate 1451 none
  statics := some 0 }

def pool8 : Array CpInfo := pool [(6, .class_ 8), (1, u "java/lang/Object"), (0, u "<init>"), (0, u "()V"), (1, .class_ 14), (1, u "java/lang/StringUTF16"), (31, u "$assertionsDisabled"), (0, u "Z"), (13, u "HI_BYTE_SHIFT"), (0, u "I"), (2, u "LO_BYTE_SHIFT"), (49, .methodref 12 116), (0, .nameAndType 117 118), (0, u "compress"), (0, u "([CI[BII)I"), (3, u "([CII)[B"), (138, u "coderFromArrayLen"), (0, u "([BI)B"), (106, .class_ 371), (1, u "java/lang/StringUTF16$LinesSpliterator"), (58, u "MAX_LENGTH"), (196, .class_ 628), (0, u "java/lang/StringUTF16$CodePointsSpliterator"), (0, .class_ 630), (0, u "java/lang/StringUTF16$CharsSpliterator")] 4

def k8m0 : Method := { name := "<init>", desc := "()V", sig := { parameters := [], returnType := none }, accessFlags := 0, code := none }
def k8c1 : Code := { maxStack := 2, maxLocals := 2, code := jdk_52_method_15_code, exceptionTable := #[], attributes := #[] }
def k8m1 : Method := { name := "coderFromArrayLen", desc := "([BI)B", sig := { parameters := [(.array .byte), .int], returnType := some .byte }, accessFlags := 8, code := some k8c1 }
def k8c2 : Code := { maxStack := 5, maxLocals := 6, code := jdk_52_method_16_code, exceptionTable := #[], attributes := #[] }
def k8m2 : Method := { name := "compress", desc := "([CII)[B", sig := { parameters := [(.array .char), .int, .int], returnType := some (.array .byte) }, accessFlags := 9, code := some k8c2 }
def k8c3 : Code := { maxStack := 3, maxLocals := 7, code := jdk_52_method_21_code, exceptionTable := #[], attributes := #[] }
def k8m3 : Method := { name := "compress", desc := "([CI[BII)I", sig := { parameters := [(.array .char), .int, (.array .byte), .int, .int], returnType := some .int }, accessFlags := 9, code := some k8c3 }
/-- java/lang/StringUTF16 -/
def k8 : Class := { plain "java/lang/StringUTF16" (some 0) with
  accessFlags := 48
  interfaces := #[]
  cf := some (fileOf pool8 12 #[.nestMembers #[627, 629, 369]] #[{ accessFlags := 0, nameIndex := 9, descriptorIndex := 10, attributes := #[] }, { accessFlags := 8, nameIndex := 261, descriptorIndex := 262, attributes := #[] }, { accessFlags := 9, nameIndex := 117, descriptorIndex := 122, attributes := #[] }, { accessFlags := 9, nameIndex := 117, descriptorIndex := 118, attributes := #[] }] 48 6 #[] #[{ accessFlags := 26, nameIndex := 61, descriptorIndex := 62, attributes := #[] }, { accessFlags := 26, nameIndex := 65, descriptorIndex := 62, attributes := #[] }, { accessFlags := 24, nameIndex := 430, descriptorIndex := 62, attributes := #[] }, { accessFlags := 4120, nameIndex := 46, descriptorIndex := 47, attributes := #[] }])
  fields := #[{ name := "HI_BYTE_SHIFT", type := .int, accessFlags := 26, slot := 0, constantValue := 0 }, { name := "LO_BYTE_SHIFT", type := .int, accessFlags := 26, slot := 1, constantValue := 0 }, { name := "MAX_LENGTH", type := .int, accessFlags := 24, slot := 2, constantValue := 0 }, { name := "$assertionsDisabled", type := .boolean, accessFlags := 4120, slot := 3, constantValue := 0 }]
  methods := #[k8m0, k8m1, k8m2, k8m3]
  instanceTypes := #[]
  staticTypes := #[.int, .int, .int, .boolean]
  resolved := Array.replicate 635 none
  statics := none }

def pool9 : Array CpInfo := pool [(2, .class_ 4), (1, u "java/lang/Enum"), (0, u "name"), (0, u "Ljava/lang/String;"), (2, u "ordinal"), (0, u "I"), (1, .class_ 14), (1, u "java/lang/Object"), (4, u "hash"), (86, .class_ 108), (1, u "java/lang/Enum$EnumDesc"), (2, .class_ 112), (0, u "java/lang/constant/Constable"), (0, .class_ 114), (0, u "java/lang/Comparable"), (0, .class_ 116), (0, u "java/io/Serializable")] 87

/-- java/lang/Enum -/
def k9 : Class := { plain "java/lang/Enum" (some 0) with
  accessFlags := 1057
  interfaces := #[5, 3, 2]
  cf := some (fileOf pool9 2 #[.nestMembers #[106]] #[] 1057 12 #[111, 113, 115] #[{ accessFlags := 18, nameIndex := 5, descriptorIndex := 6, attributes := #[] }, { accessFlags := 18, nameIndex := 9, descriptorIndex := 10, attributes := #[] }, { accessFlags := 2, nameIndex := 19, descriptorIndex := 10, attributes := #[] }])
  fields := #[{ name := "name", type := (.object "java/lang/String"), accessFlags := 18, slot := 0, constantValue := 0 }, { name := "ordinal", type := .int, accessFlags := 18, slot := 1, constantValue := 0 }, { name := "hash", type := .int, accessFlags := 2, slot := 2, constantValue := 0 }]
  methods := #[]
  instanceTypes := #[(.object "java/lang/String"), .int, .int]
  staticTypes := #[]
  resolved := Array.replicate 204 none
  statics := none }

def pool10 : Array CpInfo := pool [(1, .class_ 2), (0, u "com/example/rolegrant/rolegrant/policy/Kind"), (2, u "USER"), (0, u "Lcom/example/rolegrant/rolegrant/policy/Kind;"), (2, u "GROUP"), (2, u "ROLE"), (2, u "PRIVILEGE"), (0, .fieldref 1 17), (0, .nameAndType 18 19), (0, u "$VALUES"), (0, u "[Lcom/example/rolegrant/rolegrant/policy/Kind;"), (0, .methodref 21 22), (0, .class_ 19), (0, .nameAndType 23 24), (0, u "clone"), (0, u "()Ljava/lang/Object;"), (1, .class_ 28), (1, u "java/lang/Enum"), (6, .fieldref 1 36), (0, .nameAndType 37 38), (0, u "word"), (0, u "Ljava/lang/String;"), (0, .methodref 1 40), (0, .nameAndType 41 42), (0, u "values"), (0, u "()[Lcom/example/rolegrant/rolegrant/policy/Kind;"), (0, .methodref 44 45), (0, .class_ 46), (0, .nameAndType 47 48), (0, u "java/lang/String"), (0, u "equals"), (0, u "(Ljava/lang/Object;)Z"), (20, u "(Ljava/lang/String;)Lcom/example/rolegrant/rolegrant/policy/Kind;"), (4, u "named")] 6

def k10c0 : Code := { maxStack := 1, maxLocals := 0, code := prog_58_method_1_code, exceptionTable := #[], attributes := #[] }
def k10m0 : Method := { name := "values", desc := "()[Lcom/example/rolegrant/rolegrant/policy/Kind;", sig := { parameters := [], returnType := some (.array (.object "com/example/rolegrant/rolegrant/policy/Kind")) }, accessFlags := 9, code := some k10c0 }
def k10c1 : Code := { maxStack := 2, maxLocals := 5, code := prog_58_method_5_code, exceptionTable := #[], attributes := #[] }
def k10m1 : Method := { name := "named", desc := "(Ljava/lang/String;)Lcom/example/rolegrant/rolegrant/policy/Kind;", sig := { parameters := [(.object "java/lang/String")], returnType := some (.object "com/example/rolegrant/rolegrant/policy/Kind") }, accessFlags := 8, code := some k10c1 }
/-- com/example/rolegrant/rolegrant/policy/Kind -/
def k10 : Class := { plain "com/example/rolegrant/rolegrant/policy/Kind" (some 9) with
  accessFlags := 16433
  interfaces := #[]
  cf := some (fileOf pool10 1 #[] #[{ accessFlags := 9, nameIndex := 41, descriptorIndex := 42, attributes := #[] }, { accessFlags := 8, nameIndex := 74, descriptorIndex := 69, attributes := #[] }] 16433 26 #[] #[{ accessFlags := 16409, nameIndex := 5, descriptorIndex := 6, attributes := #[] }, { accessFlags := 16409, nameIndex := 9, descriptorIndex := 6, attributes := #[] }, { accessFlags := 16409, nameIndex := 12, descriptorIndex := 6, attributes := #[] }, { accessFlags := 16409, nameIndex := 15, descriptorIndex := 6, attributes := #[] }, { accessFlags := 18, nameIndex := 37, descriptorIndex := 38, attributes := #[] }, { accessFlags := 4122, nameIndex := 18, descriptorIndex := 19, attributes := #[] }])
  fields := #[{ name := "USER", type := (.object "com/example/rolegrant/rolegrant/policy/Kind"), accessFlags := 16409, slot := 0, constantValue := 0 }, { name := "GROUP", type := (.object "com/example/rolegrant/rolegrant/policy/Kind"), accessFlags := 16409, slot := 1, constantValue := 0 }, { name := "ROLE", type := (.object "com/example/rolegrant/rolegrant/policy/Kind"), accessFlags := 16409, slot := 2, constantValue := 0 }, { name := "PRIVILEGE", type := (.object "com/example/rolegrant/rolegrant/policy/Kind"), accessFlags := 16409, slot := 3, constantValue := 0 }, { name := "word", type := (.object "java/lang/String"), accessFlags := 18, slot := 3, constantValue := 0 }, { name := "$VALUES", type := (.array (.object "com/example/rolegrant/rolegrant/policy/Kind")), accessFlags := 4122, slot := 4, constantValue := 0 }]
  methods := #[k10m0, k10m1]
  instanceTypes := #[(.object "java/lang/String"), .int, .int, (.object "java/lang/String")]
  staticTypes := #[(.object "com/example/rolegrant/rolegrant/policy/Kind"), (.object "com/example/rolegrant/rolegrant/policy/Kind"), (.object "com/example/rolegrant/rolegrant/policy/Kind"), (.object "com/example/rolegrant/rolegrant/policy/Kind"), (.array (.object "com/example/rolegrant/rolegrant/policy/Kind"))]
  resolved := Array.replicate 81 none
  statics := some 1 }

def pool11 : Array CpInfo := pool [(1, .class_ 2), (0, u "java/lang/Cloneable"), (0, .class_ 4), (0, u "java/lang/Object")] 2

/-- java/lang/Cloneable -/
def k11 : Class := { plain "java/lang/Cloneable" (some 0) with
  accessFlags := 1537
  interfaces := #[]
  cf := some (fileOf pool11 1 #[] #[] 1537 3 #[] #[])
  fields := #[]
  methods := #[]
  instanceTypes := #[]
  staticTypes := #[]
  resolved := Array.replicate 7 none
  statics := none }

def pool12 : Array CpInfo := pool [(1, .class_ 2), (0, u "java/lang/String"), (1, .class_ 6), (1, u "java/lang/Object"), (0, u "<init>"), (0, u "()V"), (0, .methodref 1 10), (0, .nameAndType 11 12), (0, u "checkIndex"), (0, u "(II)V"), (1, .class_ 16), (1, u "java/lang/StringLatin1"), (36, u "([BI)C"), (67, u "$assertionsDisabled"), (0, u "Z"), (98, .class_ 223), (1, u "java/lang/StringLatin1$LinesSpliterator"), (28, u "charAt"), (28, u "equals"), (0, u "([B[B)Z"), (107, .class_ 391), (0, u "java/lang/StringLatin1$CharsSpliterator")] 3

def k12m0 : Method := { name := "<init>", desc := "()V", sig := { parameters := [], returnType := none }, accessFlags := 0, code := none }
def k12c1 : Code := { maxStack := 2, maxLocals := 2, code := jdk_43_method_2_code, exceptionTable := #[], attributes := #[] }
def k12m1 : Method := { name := "charAt", desc := "([BI)C", sig := { parameters := [(.array .byte), .int], returnType := some .char }, accessFlags := 9, code := some k12c1 }
def k12c2 : Code := { maxStack := 3, maxLocals := 3, code := jdk_43_method_13_code, exceptionTable := #[], attributes := #[] }
def k12m2 : Method := { name := "equals", desc := "([B[B)Z", sig := { parameters := [(.array .byte), (.array .byte)], returnType := some .boolean }, accessFlags := 9, code := some k12c2 }
/-- java/lang/StringLatin1 -/
def k12 : Class := { plain "java/lang/StringLatin1" (some 0) with
  accessFlags := 48
  interfaces := #[]
  cf := some (fileOf pool12 14 #[.nestMembers #[390, 221]] #[{ accessFlags := 0, nameIndex := 7, descriptorIndex := 8, attributes := #[] }, { accessFlags := 9, nameIndex := 252, descriptorIndex := 53, attributes := #[] }, { accessFlags := 9, nameIndex := 281, descriptorIndex := 282, attributes := #[] }] 48 4 #[] #[{ accessFlags := 4120, nameIndex := 121, descriptorIndex := 122, attributes := #[] }])
  fields := #[{ name := "$assertionsDisabled", type := .boolean, accessFlags := 4120, slot := 0, constantValue := 0 }]
  methods := #[k12m0, k12m1, k12m2]
  instanceTypes := #[]
  staticTypes := #[.boolean]
  resolved := Array.replicate 395 none
  statics := none }

def pool13 : Array CpInfo := pool [(2, .class_ 4), (1, u "java/lang/Object"), (0, u "<init>"), (0, u "()V"), (17, .class_ 26), (1, u "jdk/internal/util/Preconditions"), (6, u "checkIndex"), (21, .class_ 56), (0, u "jdk/internal/util/Preconditions$4"), (57, .class_ 115), (0, u "jdk/internal/util/Preconditions$1"), (7, u "SIOOBE_FORMATTER"), (0, u "Ljava/util/function/BiFunction;"), (0, .class_ 126), (0, u "jdk/internal/util/Preconditions$2"), (3, u "AIOOBE_FORMATTER"), (0, .class_ 132), (0, u "jdk/internal/util/Preconditions$3"), (3, u "IOOBE_FORMATTER"), (41, u "(IILjava/util/function/BiFunction;)I")] 15

def k13m0 : Method := { name := "<init>", desc := "()V", sig := { parameters := [], returnType := none }, accessFlags := 1, code := none }
def k13c1 : Code := { maxStack := 3, maxLocals := 3, code := jdk_41_method_11_code, exceptionTable := #[], attributes := #[] }
def k13m1 : Method := { name := "checkIndex", desc := "(IILjava/util/function/BiFunction;)I", sig := { parameters := [.int, .int, (.object "java/util/function/BiFunction")], returnType := some .int }, accessFlags := 9, code := some k13c1 }
/-- jdk/internal/util/Preconditions -/
def k13 : Class := { plain "jdk/internal/util/Preconditions" (some 0) with
  accessFlags := 33
  interfaces := #[]
  cf := some (fileOf pool13 24 #[.nestMembers #[55, 131, 125, 114]] #[{ accessFlags := 1, nameIndex := 5, descriptorIndex := 6, attributes := #[] }, { accessFlags := 9, nameIndex := 33, descriptorIndex := 178, attributes := #[] }] 33 2 #[] #[{ accessFlags := 25, nameIndex := 123, descriptorIndex := 124, attributes := #[] }, { accessFlags := 25, nameIndex := 130, descriptorIndex := 124, attributes := #[] }, { accessFlags := 25, nameIndex := 136, descriptorIndex := 124, attributes := #[] }])
  fields := #[{ name := "SIOOBE_FORMATTER", type := (.object "java/util/function/BiFunction"), accessFlags := 25, slot := 0, constantValue := 0 }, { name := "AIOOBE_FORMATTER", type := (.object "java/util/function/BiFunction"), accessFlags := 25, slot := 1, constantValue := 0 }, { name := "IOOBE_FORMATTER", type := (.object "java/util/function/BiFunction"), accessFlags := 25, slot := 2, constantValue := 0 }]
  methods := #[k13m0, k13m1]
  instanceTypes := #[]
  staticTypes := #[(.object "java/util/function/BiFunction"), (.object "java/util/function/BiFunction"), (.object "java/util/function/BiFunction")]
  resolved := Array.replicate 194 none
  statics := some 2 }

def pool14 : Array CpInfo := pool [(9, u "<init>"), (6, .class_ 18), (1, u "java/lang/Object"), (0, u "()V"), (1, .class_ 23), (1, u "jdk/internal/util/ArraysSupport"), (0, u "LOG2_ARRAY_LONG_INDEX_SCALE"), (0, u "I"), (2, u "U"), (0, u "Ljdk/internal/misc/Unsafe;"), (8, u "BIG_ENDIAN"), (0, u "Z"), (8, u "LOG2_BYTE_BIT_SIZE"), (4, u "LOG2_ARRAY_INT_INDEX_SCALE"), (54, u "JLA"), (0, u "Ljdk/internal/access/JavaLangAccess;"), (11, u "LOG2_ARRAY_BOOLEAN_INDEX_SCALE"), (9, u "LOG2_ARRAY_BYTE_INDEX_SCALE"), (5, u "LOG2_ARRAY_CHAR_INDEX_SCALE"), (5, u "LOG2_ARRAY_SHORT_INDEX_SCALE"), (18, u "LOG2_ARRAY_FLOAT_INDEX_SCALE"), (24, u "LOG2_ARRAY_DOUBLE_INDEX_SCALE"), (89, u "T_BOOLEAN"), (2, u "T_CHAR"), (1, u "T_FLOAT"), (1, u "T_DOUBLE"), (1, u "T_BYTE"), (1, u "T_SHORT"), (1, u "T_INT"), (1, u "T_LONG"), (1, u "SOFT_MAX_ARRAY_LENGTH")] 83

def k14m0 : Method := { name := "<init>", desc := "()V", sig := { parameters := [], returnType := none }, accessFlags := 2, code := none }
/-- jdk/internal/util/ArraysSupport -/
def k14 : Class := { plain "jdk/internal/util/ArraysSupport" (some 0) with
  accessFlags := 33
  interfaces := #[]
  cf := some (fileOf pool14 21 #[] #[{ accessFlags := 2, nameIndex := 9, descriptorIndex := 19, attributes := #[] }] 33 16 #[] #[{ accessFlags := 24, nameIndex := 28, descriptorIndex := 29, attributes := #[] }, { accessFlags := 26, nameIndex := 38, descriptorIndex := 39, attributes := #[] }, { accessFlags := 25, nameIndex := 121, descriptorIndex := 25, attributes := #[] }, { accessFlags := 25, nameIndex := 131, descriptorIndex := 25, attributes := #[] }, { accessFlags := 25, nameIndex := 137, descriptorIndex := 25, attributes := #[] }, { accessFlags := 25, nameIndex := 143, descriptorIndex := 25, attributes := #[] }, { accessFlags := 25, nameIndex := 53, descriptorIndex := 25, attributes := #[] }, { accessFlags := 25, nameIndex := 24, descriptorIndex := 25, attributes := #[] }, { accessFlags := 25, nameIndex := 162, descriptorIndex := 25, attributes := #[] }, { accessFlags := 25, nameIndex := 187, descriptorIndex := 25, attributes := #[] }, { accessFlags := 26, nameIndex := 48, descriptorIndex := 25, attributes := #[] }, { accessFlags := 25, nameIndex := 277, descriptorIndex := 25, attributes := #[] }, { accessFlags := 25, nameIndex := 280, descriptorIndex := 25, attributes := #[] }, { accessFlags := 25, nameIndex := 282, descriptorIndex := 25, attributes := #[] }, { accessFlags := 25, nameIndex := 284, descriptorIndex := 25, attributes := #[] }, { accessFlags := 25, nameIndex := 286, descriptorIndex := 25, attributes := #[] }, { accessFlags := 25, nameIndex := 288, descriptorIndex := 25, attributes := #[] }, { accessFlags := 25, nameIndex := 290, descriptorIndex := 25, attributes := #[] }, { accessFlags := 25, nameIndex := 292, descriptorIndex := 25, attributes := #[] }, { accessFlags := 26, nameIndex := 108, descriptorIndex := 109, attributes := #[] }, { accessFlags := 25, nameIndex := 294, descriptorIndex := 25, attributes := #[] }])
  fields := #[{ name := "U", type := (.object "jdk/internal/misc/Unsafe"), accessFlags := 24, slot := 0, constantValue := 0 }, { name := "BIG_ENDIAN", type := .boolean, accessFlags := 26, slot := 1, constantValue := 0 }, { name := "LOG2_ARRAY_BOOLEAN_INDEX_SCALE", type := .int, accessFlags := 25, slot := 2, constantValue := 0 }, { name := "LOG2_ARRAY_BYTE_INDEX_SCALE", type := .int, accessFlags := 25, slot := 3, constantValue := 0 }, { name := "LOG2_ARRAY_CHAR_INDEX_SCALE", type := .int, accessFlags := 25, slot := 4, constantValue := 0 }, { name := "LOG2_ARRAY_SHORT_INDEX_SCALE", type := .int, accessFlags := 25, slot := 5, constantValue := 0 }, { name := "LOG2_ARRAY_INT_INDEX_SCALE", type := .int, accessFlags := 25, slot := 6, constantValue := 0 }, { name := "LOG2_ARRAY_LONG_INDEX_SCALE", type := .int, accessFlags := 25, slot := 7, constantValue := 0 }, { name := "LOG2_ARRAY_FLOAT_INDEX_SCALE", type := .int, accessFlags := 25, slot := 8, constantValue := 0 }, { name := "LOG2_ARRAY_DOUBLE_INDEX_SCALE", type := .int, accessFlags := 25, slot := 9, constantValue := 0 }, { name := "LOG2_BYTE_BIT_SIZE", type := .int, accessFlags := 26, slot := 10, constantValue := 0 }, { name := "T_BOOLEAN", type := .int, accessFlags := 25, slot := 11, constantValue := 0 }, { name := "T_CHAR", type := .int, accessFlags := 25, slot := 12, constantValue := 0 }, { name := "T_FLOAT", type := .int, accessFlags := 25, slot := 13, constantValue := 0 }, { name := "T_DOUBLE", type := .int, accessFlags := 25, slot := 14, constantValue := 0 }, { name := "T_BYTE", type := .int, accessFlags := 25, slot := 15, constantValue := 0 }, { name := "T_SHORT", type := .int, accessFlags := 25, slot := 16, constantValue := 0 }, { name := "T_INT", type := .int, accessFlags := 25, slot := 17, constantValue := 0 }, { name := "T_LONG", type := .int, accessFlags := 25, slot := 18, constantValue := 0 }, { name := "JLA", type := (.object "jdk/internal/access/JavaLangAccess"), accessFlags := 26, slot := 19, constantValue := 0 }, { name := "SOFT_MAX_ARRAY_LENGTH", type := .int, accessFlags := 25, slot := 20, constantValue := 0 }]
  methods := #[k14m0]
  instanceTypes := #[]
  staticTypes := #[(.object "jdk/internal/misc/Unsafe"), .boolean, .int, .int, .int, .int, .int, .int, .int, .int, .int, .int, .int, .int, .int, .int, .int, .int, .int, (.object "jdk/internal/access/JavaLangAccess"), .int]
  resolved := Array.replicate 378 none
  statics := none }

/-- the primitive byte -/
def k15 : Class := { plain "byte" none with kind := .primitive 'B', accessFlags := 0x411 }
/-- [B -/
def k16 : Class := { plain "[B" (some 0) with kind := .array 15 .byte, interfaces := #[11, 2], accessFlags := 1041 }

/-- the primitive char -/
def k17 : Class := { plain "char" none with kind := .primitive 'C', accessFlags := 0x411 }
/-- [C -/
def k18 : Class := { plain "[C" (some 0) with kind := .array 17 .char, interfaces := #[11, 2], accessFlags := 1041 }

/-- the primitive int -/
def k19 : Class := { plain "int" none with kind := .primitive 'I', accessFlags := 0x411 }
/-- [I -/
def k20 : Class := { plain "[I" (some 0) with kind := .array 19 .int, interfaces := #[11, 2], accessFlags := 1041 }

/-- [Lcom/example/rolegrant/rolegrant/policy/Kind; -/
def k21 : Class := { plain "[Lcom/example/rolegrant/rolegrant/policy/Kind;" (some 0) with kind := .array 10 (.object "com/example/rolegrant/rolegrant/policy/Kind"), interfaces := #[11, 2], accessFlags := 1041 }

def heap : Heap := #[{ cls := 7, slots := #[.long 0, .int 1, .null, .int 0, .null, .int 0, .int 0], vm := .statics 7 },
  { cls := 10, slots := #[.ref 4, .ref 5, .ref 6, .ref 7, .ref 3], vm := .statics 10 },
  { cls := 13, slots := #[.null, .null, .null], vm := .statics 13 },
  { cls := 21, slots := #[.ref 4, .ref 5, .ref 6, .ref 7], vm := .none },
  { cls := 10, slots := #[.null, .int 0, .int 0, .ref 8], vm := .none },
  { cls := 10, slots := #[.null, .int 1, .int 0, .ref 9], vm := .none },
  { cls := 10, slots := #[.null, .int 2, .int 0, .ref 10], vm := .none },
  { cls := 10, slots := #[.null, .int 3, .int 0, .ref 11], vm := .none },
  { cls := 7, slots := #[.ref 12, .int 0, .int 0, .int 0], vm := .none },
  { cls := 7, slots := #[.ref 13, .int 0, .int 0, .int 0], vm := .none },
  { cls := 7, slots := #[.ref 14, .int 0, .int 0, .int 0], vm := .none },
  { cls := 7, slots := #[.ref 15, .int 0, .int 0, .int 0], vm := .none },
  { cls := 16, slots := #[.int 117, .int 115, .int 101, .int 114], vm := .none },
  { cls := 16, slots := #[.int 103, .int 114, .int 111, .int 117, .int 112], vm := .none },
  { cls := 16, slots := #[.int 114, .int 111, .int 108, .int 101], vm := .none },
  { cls := 16, slots := #[.int 112, .int 114, .int 105, .int 118, .int 105, .int 108, .int 101, .int 103, .int 101], vm := .none }]
def classes : Array Class := #[k0, k1, k2, k3, k4, k5, k6, k7, k8, k9, k10, k11, k12, k13, k14, k15, k16, k17, k18, k19, k20, k21]
def interned : List (Array UInt16 × Addr) := []
def slotsUsed : Nat := 73
def theMethod : MethodId := ⟨1, 1⟩
def args0 : Array Value := #[.int 3, .int 2, .int 65552, .int 4, .int 5, .int 6]
def aboutOver (below : List Frame) : State where
  vm := { classes := classes, interned := interned.toArray }
  heap := heap
  slotsUsed := slotsUsed
  threads := #[{ frames := .invoking theMethod args0 :: below }]
def below0 : List Frame := [.native { method := ⟨0, 0⟩, args := #[] }]
def about1 : State := aboutOver below0
def p0 : Program := .bare "" "" ""
def e0 : Env := launch0.env 0 0 0
theorem w_frames : about1.frames = Frame.invoking theMethod args0 :: below0 := rfl
set_option maxRecDepth 65536 in
theorem w_args : argsFit about1.vm theMethod args0 = true := by decide +kernel
set_option maxRecDepth 65536 in
theorem w_heap : heapFits about1 = true := by decide +kernel
set_option maxRecDepth 65536 in
theorem w_runnable : about1.curStatus? = some .runnable := by decide +kernel
set_option maxRecDepth 65536 in
theorem w_alone : about1.alone = true := by decide +kernel
set_option maxRecDepth 65536 in
theorem w_named : about1.methodNamed? x = some theMethod := by decide +kernel
set_option maxRecDepth 65536 in
theorem w_hears : about1.hears theMethod below0 = true := by decide +kernel
set_option maxRecDepth 65536 in
theorem w_ripe : about1.ripe theMethod args0 below0 = true := by decide +kernel
theorem w_running : about1.status = .running := rfl
set_option maxRecDepth 65536 in
theorem w_room : about1.hasRoom e0.platform room_1 = true :=
  launch0.hasRoom_least _ room_1 (by decide +kernel) (by decide +kernel) (by decide +kernel) (by decide +kernel) (by decide +kernel) (by decide +kernel)
theorem allAtoms_all (ts : List Jvm.Cond) (a : Array Jvm.Value) (st : Jvm.State) : (allAtoms ts).before a st = ts.all (fun c => c.before a st) := by
  induction ts with
  | nil => rfl
  | cons c t ih =>
    show (Jvm.Cond.and c (allAtoms t)).before a st = _
    rw [Jvm.Cond.before_and, ih, List.all_cons]
def words1 : List Jvm.Cond := Jvm.Cond.code x code maxLocals ret :: tables_1
/-- a 'code' word, met by the world's own term for the bytes: nothing is compared byte by byte -/
theorem code_word {y : MethodName} {bytes : ByteArray} {mx : Nat} {rt : Option FieldType} {a : Array Value} {s : State} {m : MethodId} {meth : Method} {c : Code} (h1 : s.methodNamed? y = some m) (h2 : s.vm.method? m = some meth) (h3 : meth.code = some c) (h4 : c.code = bytes)
    (h5 : (c.maxLocals == mx && c.exceptionTable.isEmpty && decide (c.maxStack ≤ mostOperands) && decide (meth.sig.returnType = rt) && !meth.locks && decide (parseMethodDescriptor y.desc = some meth.sig)) = true) : (Jvm.Cond.code y bytes mx rt).before a s = true := by
  simp only [Bool.and_eq_true, beq_iff_eq, Bool.not_eq_true', decide_eq_true_eq] at h5
  obtain ⟨⟨⟨⟨⟨g1, g2⟩, g3⟩, g4⟩, g5⟩, g6⟩ := h5
  simp [Cond.before, Cond.holds, Cond.value, h1, h2, h3, h4, g1, g2, g3, g4, g5, g6]
def isCode : Jvm.Cond → Bool
  | .code _ _ _ _ => true
  | _ => false
theorem all_split {L : List Jvm.Cond} {P : Jvm.Cond → Bool} (h1 : L.all (fun c => isCode c || P c) = true) (h2 : ∀ c ∈ L.filter isCode, P c = true) : L.all P = true := by
  refine List.all_eq_true.mpr fun c hc => ?_
  have h := List.all_eq_true.mp h1 c hc
  rcases Bool.eq_false_or_eq_true (isCode c) with hi | hi
  · exact h2 c (List.mem_filter.mpr ⟨hc, hi⟩)
  · simpa [hi] using h
set_option maxRecDepth 65536 in
theorem w_c0 : (Jvm.Cond.code x code maxLocals ret).before args0 about1 = true := code_word (m := ⟨1, 1⟩) (meth := k1m1) (c := k1c1) (by decide +kernel) rfl rfl rfl (by decide +kernel)
set_option maxRecDepth 65536 in
theorem w_c1 : (Jvm.Cond.code ({ cls := "com/example/rolegrant/rolegrant/policy/KindNamedPinLaw", name := "word", desc := "(I)Ljava/lang/String;" } : Jvm.MethodName) method_3_code (1 : Nat) (Option.some (Jvm.ClassFile.FieldType.object "java/lang/String"))).before args0 about1 = true := code_word (m := ⟨1, 2⟩) (meth := k1m2) (c := k1c2) (by decide +kernel) rfl rfl rfl (by decide +kernel)
set_option maxRecDepth 65536 in
theorem w_c2 : (Jvm.Cond.code ({ cls := "com/example/rolegrant/rolegrant/policy/KindNamedPinLaw", name := "at", desc := "(ILjava/lang/String;ZICIII)C" } : Jvm.MethodName) method_6_code (8 : Nat) (Option.some Jvm.ClassFile.FieldType.char)).before args0 about1 = true := code_word (m := ⟨1, 5⟩) (meth := k1m5) (c := k1c5) (by decide +kernel) rfl rfl rfl (by decide +kernel)
set_option maxRecDepth 65536 in
theorem w_c3 : (Jvm.Cond.code ({ cls := "com/example/rolegrant/rolegrant/policy/KindNamedPinLaw", name := "drawn", desc := "(IIII)C" } : Jvm.MethodName) method_5_code (6 : Nat) (Option.some Jvm.ClassFile.FieldType.char)).before args0 about1 = true := code_word (m := ⟨1, 4⟩) (meth := k1m4) (c := k1c4) (by decide +kernel) rfl rfl rfl (by decide +kernel)
set_option maxRecDepth 65536 in
theorem w_c4 : (Jvm.Cond.code ({ cls := "java/lang/String", name := "<init>", desc := "([C)V" } : Jvm.MethodName) jdk_42_method_3_code (2 : Nat) (Option.none : Option Jvm.ClassFile.FieldType)).before args0 about1 = true := code_word (m := ⟨7, 1⟩) (meth := k7m1) (c := k7c1) (by decide +kernel) rfl rfl rfl (by decide +kernel)
set_option maxRecDepth 65536 in
theorem w_c5 : (Jvm.Cond.code ({ cls := "java/lang/String", name := "<init>", desc := "([CIILjava/lang/Void;)V" } : Jvm.MethodName) jdk_42_method_149_code (6 : Nat) (Option.none : Option Jvm.ClassFile.FieldType)).before args0 about1 = true := code_word (m := ⟨7, 5⟩) (meth := k7m5) (c := k7c5) (by decide +kernel) rfl rfl rfl (by decide +kernel)
set_option maxRecDepth 65536 in
theorem w_c6 : (Jvm.Cond.code ({ cls := "java/lang/Object", name := "<init>", desc := "()V" } : Jvm.MethodName) object_method_1_code (1 : Nat) (Option.none : Option Jvm.ClassFile.FieldType)).before args0 about1 = true := code_word (m := ⟨0, 0⟩) (meth := k0m0) (c := k0c0) (by decide +kernel) rfl rfl rfl (by decide +kernel)
set_option maxRecDepth 65536 in
theorem w_c7 : (Jvm.Cond.code ({ cls := "java/lang/StringUTF16", name := "compress", desc := "([CII)[B" } : Jvm.MethodName) jdk_52_method_16_code (6 : Nat) (Option.some (Jvm.ClassFile.FieldType.array Jvm.ClassFile.FieldType.byte))).before args0 about1 = true := code_word (m := ⟨8, 2⟩) (meth := k8m2) (c := k8c2) (by decide +kernel) rfl rfl rfl (by decide +kernel)
set_option maxRecDepth 65536 in
theorem w_c8 : (Jvm.Cond.code ({ cls := "java/lang/StringUTF16", name := "compress", desc := "([CI[BII)I" } : Jvm.MethodName) jdk_52_method_21_code (7 : Nat) (Option.some Jvm.ClassFile.FieldType.int)).before args0 about1 = true := code_word (m := ⟨8, 3⟩) (meth := k8m3) (c := k8c3) (by decide +kernel) rfl rfl rfl (by decide +kernel)
set_option maxRecDepth 65536 in
theorem w_c9 : (Jvm.Cond.code ({ cls := "java/lang/StringUTF16", name := "coderFromArrayLen", desc := "([BI)B" } : Jvm.MethodName) jdk_52_method_15_code (2 : Nat) (Option.some Jvm.ClassFile.FieldType.byte)).before args0 about1 = true := code_word (m := ⟨8, 1⟩) (meth := k8m1) (c := k8c1) (by decide +kernel) rfl rfl rfl (by decide +kernel)
set_option maxRecDepth 65536 in
theorem w_c10 : (Jvm.Cond.code ({ cls := "com/example/rolegrant/rolegrant/policy/Kind", name := "named", desc := "(Ljava/lang/String;)Lcom/example/rolegrant/rolegrant/policy/Kind;" } : Jvm.MethodName) prog_58_method_5_code (5 : Nat) (Option.some (Jvm.ClassFile.FieldType.object "com/example/rolegrant/rolegrant/policy/Kind"))).before args0 about1 = true := code_word (m := ⟨10, 1⟩) (meth := k10m1) (c := k10c1) (by decide +kernel) rfl rfl rfl (by decide +kernel)
set_option maxRecDepth 65536 in
theorem w_c11 : (Jvm.Cond.code ({ cls := "com/example/rolegrant/rolegrant/policy/Kind", name := "values", desc := "()[Lcom/example/rolegrant/rolegrant/policy/Kind;" } : Jvm.MethodName) prog_58_method_1_code (0 : Nat) (Option.some (Jvm.ClassFile.FieldType.array (Jvm.ClassFile.FieldType.object "com/example/rolegrant/rolegrant/policy/Kind")))).before args0 about1 = true := code_word (m := ⟨10, 0⟩) (meth := k10m0) (c := k10c0) (by decide +kernel) rfl rfl rfl (by decide +kernel)
set_option maxRecDepth 65536 in
theorem w_c12 : (Jvm.Cond.code ({ cls := "java/lang/String", name := "equals", desc := "(Ljava/lang/Object;)Z" } : Jvm.MethodName) jdk_42_method_66_code (3 : Nat) (Option.some Jvm.ClassFile.FieldType.boolean)).before args0 about1 = true := code_word (m := ⟨7, 4⟩) (meth := k7m4) (c := k7c4) (by decide +kernel) rfl rfl rfl (by decide +kernel)
set_option maxRecDepth 65536 in
theorem w_c13 : (Jvm.Cond.code ({ cls := "java/lang/StringLatin1", name := "equals", desc := "([B[B)Z" } : Jvm.MethodName) jdk_43_method_13_code (3 : Nat) (Option.some Jvm.ClassFile.FieldType.boolean)).before args0 about1 = true := code_word (m := ⟨12, 2⟩) (meth := k12m2) (c := k12c2) (by decide +kernel) rfl rfl rfl (by decide +kernel)
set_option maxRecDepth 65536 in
theorem w_c14 : (Jvm.Cond.code ({ cls := "com/example/rolegrant/rolegrant/policy/KindNamedPinLaw", name := "expected", desc := "(Ljava/lang/String;)Lcom/example/rolegrant/rolegrant/policy/Kind;" } : Jvm.MethodName) method_4_code (1 : Nat) (Option.some (Jvm.ClassFile.FieldType.object "com/example/rolegrant/rolegrant/policy/Kind"))).before args0 about1 = true := code_word (m := ⟨1, 3⟩) (meth := k1m3) (c := k1c3) (by decide +kernel) rfl rfl rfl (by decide +kernel)
set_option maxRecDepth 65536 in
theorem w_c15 : (Jvm.Cond.code ({ cls := "java/lang/String", name := "length", desc := "()I" } : Jvm.MethodName) jdk_42_method_54_code (1 : Nat) (Option.some Jvm.ClassFile.FieldType.int)).before args0 about1 = true := code_word (m := ⟨7, 2⟩) (meth := k7m2) (c := k7c2) (by decide +kernel) rfl rfl rfl (by decide +kernel)
set_option maxRecDepth 65536 in
theorem w_c16 : (Jvm.Cond.code ({ cls := "java/lang/String", name := "coder", desc := "()B" } : Jvm.MethodName) jdk_42_method_152_code (1 : Nat) (Option.some Jvm.ClassFile.FieldType.byte)).before args0 about1 = true := code_word (m := ⟨7, 6⟩) (meth := k7m6) (c := k7c6) (by decide +kernel) rfl rfl rfl (by decide +kernel)
set_option maxRecDepth 65536 in
theorem w_c17 : (Jvm.Cond.code ({ cls := "java/lang/String", name := "charAt", desc := "(I)C" } : Jvm.MethodName) jdk_42_method_56_code (2 : Nat) (Option.some Jvm.ClassFile.FieldType.char)).before args0 about1 = true := code_word (m := ⟨7, 3⟩) (meth := k7m3) (c := k7c3) (by decide +kernel) rfl rfl rfl (by decide +kernel)
set_option maxRecDepth 65536 in
theorem w_c18 : (Jvm.Cond.code ({ cls := "java/lang/String", name := "isLatin1", desc := "()Z" } : Jvm.MethodName) jdk_42_method_154_code (1 : Nat) (Option.some Jvm.ClassFile.FieldType.boolean)).before args0 about1 = true := code_word (m := ⟨7, 7⟩) (meth := k7m7) (c := k7c7) (by decide +kernel) rfl rfl rfl (by decide +kernel)
set_option maxRecDepth 65536 in
theorem w_c19 : (Jvm.Cond.code ({ cls := "java/lang/StringLatin1", name := "charAt", desc := "([BI)C" } : Jvm.MethodName) jdk_43_method_2_code (2 : Nat) (Option.some Jvm.ClassFile.FieldType.char)).before args0 about1 = true := code_word (m := ⟨12, 1⟩) (meth := k12m1) (c := k12c1) (by decide +kernel) rfl rfl rfl (by decide +kernel)
set_option maxRecDepth 65536 in
theorem w_c20 : (Jvm.Cond.code ({ cls := "java/lang/String", name := "checkIndex", desc := "(II)V" } : Jvm.MethodName) jdk_42_method_155_code (2 : Nat) (Option.none : Option Jvm.ClassFile.FieldType)).before args0 about1 = true := code_word (m := ⟨7, 8⟩) (meth := k7m8) (c := k7c8) (by decide +kernel) rfl rfl rfl (by decide +kernel)
set_option maxRecDepth 65536 in
theorem w_c21 : (Jvm.Cond.code ({ cls := "jdk/internal/util/Preconditions", name := "checkIndex", desc := "(IILjava/util/function/BiFunction;)I" } : Jvm.MethodName) jdk_41_method_11_code (3 : Nat) (Option.some Jvm.ClassFile.FieldType.int)).before args0 about1 = true := code_word (m := ⟨13, 1⟩) (meth := k13m1) (c := k13c1) (by decide +kernel) rfl rfl rfl (by decide +kernel)
def codes1 : List Jvm.Cond := [Jvm.Cond.code x code maxLocals ret, Jvm.Cond.code ({ cls := "com/example/rolegrant/rolegrant/policy/KindNamedPinLaw", name := "word", desc := "(I)Ljava/lang/String;" } : Jvm.MethodName) method_3_code (1 : Nat) (Option.some (Jvm.ClassFile.FieldType.object "java/lang/String")), Jvm.Cond.code ({ cls := "com/example/rolegrant/rolegrant/policy/KindNamedPinLaw", name := "at", desc := "(ILjava/lang/String;ZICIII)C" } : Jvm.MethodName) method_6_code (8 : Nat) (Option.some Jvm.ClassFile.FieldType.char), Jvm.Cond.code ({ cls := "com/example/rolegrant/rolegrant/policy/KindNamedPinLaw", name := "drawn", desc := "(IIII)C" } : Jvm.MethodName) method_5_code (6 : Nat) (Option.some Jvm.ClassFile.FieldType.char), Jvm.Cond.code ({ cls := "java/lang/String", name := "<init>", desc := "([C)V" } : Jvm.MethodName) jdk_42_method_3_code (2 : Nat) (Option.none : Option Jvm.ClassFile.FieldType), Jvm.Cond.code ({ cls := "java/lang/String", name := "<init>", desc := "([CIILjava/lang/Void;)V" } : Jvm.MethodName) jdk_42_method_149_code (6 : Nat) (Option.none : Option Jvm.ClassFile.FieldType), Jvm.Cond.code ({ cls := "java/lang/Object", name := "<init>", desc := "()V" } : Jvm.MethodName) object_method_1_code (1 : Nat) (Option.none : Option Jvm.ClassFile.FieldType), Jvm.Cond.code ({ cls := "java/lang/StringUTF16", name := "compress", desc := "([CII)[B" } : Jvm.MethodName) jdk_52_method_16_code (6 : Nat) (Option.some (Jvm.ClassFile.FieldType.array Jvm.ClassFile.FieldType.byte)), Jvm.Cond.code ({ cls := "java/lang/StringUTF16", name := "compress", desc := "([CI[BII)I" } : Jvm.MethodName) jdk_52_method_21_code (7 : Nat) (Option.some Jvm.ClassFile.FieldType.int), Jvm.Cond.code ({ cls := "java/lang/StringUTF16", name := "coderFromArrayLen", desc := "([BI)B" } : Jvm.MethodName) jdk_52_method_15_code (2 : Nat) (Option.some Jvm.ClassFile.FieldType.byte), Jvm.Cond.code ({ cls := "com/example/rolegrant/rolegrant/policy/Kind", name := "named", desc := "(Ljava/lang/String;)Lcom/example/rolegrant/rolegrant/policy/Kind;" } : Jvm.MethodName) prog_58_method_5_code (5 : Nat) (Option.some (Jvm.ClassFile.FieldType.object "com/example/rolegrant/rolegrant/policy/Kind")), Jvm.Cond.code ({ cls := "com/example/rolegrant/rolegrant/policy/Kind", name := "values", desc := "()[Lcom/example/rolegrant/rolegrant/policy/Kind;" } : Jvm.MethodName) prog_58_method_1_code (0 : Nat) (Option.some (Jvm.ClassFile.FieldType.array (Jvm.ClassFile.FieldType.object "com/example/rolegrant/rolegrant/policy/Kind"))), Jvm.Cond.code ({ cls := "java/lang/String", name := "equals", desc := "(Ljava/lang/Object;)Z" } : Jvm.MethodName) jdk_42_method_66_code (3 : Nat) (Option.some Jvm.ClassFile.FieldType.boolean), Jvm.Cond.code ({ cls := "java/lang/StringLatin1", name := "equals", desc := "([B[B)Z" } : Jvm.MethodName) jdk_43_method_13_code (3 : Nat) (Option.some Jvm.ClassFile.FieldType.boolean), Jvm.Cond.code ({ cls := "com/example/rolegrant/rolegrant/policy/KindNamedPinLaw", name := "expected", desc := "(Ljava/lang/String;)Lcom/example/rolegrant/rolegrant/policy/Kind;" } : Jvm.MethodName) method_4_code (1 : Nat) (Option.some (Jvm.ClassFile.FieldType.object "com/example/rolegrant/rolegrant/policy/Kind")), Jvm.Cond.code ({ cls := "java/lang/String", name := "length", desc := "()I" } : Jvm.MethodName) jdk_42_method_54_code (1 : Nat) (Option.some Jvm.ClassFile.FieldType.int), Jvm.Cond.code ({ cls := "java/lang/String", name := "coder", desc := "()B" } : Jvm.MethodName) jdk_42_method_152_code (1 : Nat) (Option.some Jvm.ClassFile.FieldType.byte), Jvm.Cond.code ({ cls := "java/lang/String", name := "charAt", desc := "(I)C" } : Jvm.MethodName) jdk_42_method_56_code (2 : Nat) (Option.some Jvm.ClassFile.FieldType.char), Jvm.Cond.code ({ cls := "java/lang/String", name := "isLatin1", desc := "()Z" } : Jvm.MethodName) jdk_42_method_154_code (1 : Nat) (Option.some Jvm.ClassFile.FieldType.boolean), Jvm.Cond.code ({ cls := "java/lang/StringLatin1", name := "charAt", desc := "([BI)C" } : Jvm.MethodName) jdk_43_method_2_code (2 : Nat) (Option.some Jvm.ClassFile.FieldType.char), Jvm.Cond.code ({ cls := "java/lang/String", name := "checkIndex", desc := "(II)V" } : Jvm.MethodName) jdk_42_method_155_code (2 : Nat) (Option.none : Option Jvm.ClassFile.FieldType), Jvm.Cond.code ({ cls := "jdk/internal/util/Preconditions", name := "checkIndex", desc := "(IILjava/util/function/BiFunction;)I" } : Jvm.MethodName) jdk_41_method_11_code (3 : Nat) (Option.some Jvm.ClassFile.FieldType.int)]
set_option maxRecDepth 65536 in
theorem codes_eq : words1.filter isCode = codes1 := rfl
theorem w_codes : ∀ c ∈ words1.filter isCode, c.before args0 about1 = true := by
  rw [codes_eq]
  intro c hc
  simp only [codes1, List.mem_cons, List.not_mem_nil, or_false] at hc
  rcases hc with rfl | rfl | rfl | rfl | rfl | rfl | rfl | rfl | rfl | rfl | rfl | rfl | rfl | rfl | rfl | rfl | rfl | rfl | rfl | rfl | rfl | rfl
  · exact w_c0
  · exact w_c1
  · exact w_c2
  · exact w_c3
  · exact w_c4
  · exact w_c5
  · exact w_c6
  · exact w_c7
  · exact w_c8
  · exact w_c9
  · exact w_c10
  · exact w_c11
  · exact w_c12
  · exact w_c13
  · exact w_c14
  · exact w_c15
  · exact w_c16
  · exact w_c17
  · exact w_c18
  · exact w_c19
  · exact w_c20
  · exact w_c21
set_option maxRecDepth 65536 in
theorem w_t1 : (words1.take 24).all (fun c => isCode c || c.before args0 about1) = true := by decide +kernel
set_option maxRecDepth 65536 in
theorem w_t2 : ((words1.drop 24).take 24).all (fun c => isCode c || c.before args0 about1) = true := by decide +kernel
set_option maxRecDepth 65536 in
theorem w_t3 : (((words1.drop 24).drop 24).take 24).all (fun c => isCode c || c.before args0 about1) = true := by decide +kernel
set_option maxRecDepth 65536 in
theorem w_t4 : ((((words1.drop 24).drop 24).drop 24).take 24).all (fun c => isCode c || c.before args0 about1) = true := by decide +kernel
set_option maxRecDepth 65536 in
theorem w_t5 : (((((words1.drop 24).drop 24).drop 24).drop 24).take 24).all (fun c => isCode c || c.before args0 about1) = true := by decide +kernel
set_option maxRecDepth 65536 in
theorem w_t6 : (((((words1.drop 24).drop 24).drop 24).drop 24).drop 24).all (fun c => isCode c || c.before args0 about1) = true := by decide +kernel
theorem w_tables : (allAtoms (Jvm.Cond.code x code maxLocals ret :: tables_1)).before args0 about1 = true := by
  rw [allAtoms_all]
  show words1.all (fun c => c.before args0 about1) = true
  refine all_split ?_ w_codes
  rw [← List.take_append_drop 24 words1, List.all_append, w_t1, ← List.take_append_drop 24 (words1.drop 24), List.all_append, w_t2, ← List.take_append_drop 24 ((words1.drop 24).drop 24), List.all_append, w_t3, ← List.take_append_drop 24 (((words1.drop 24).drop 24).drop 24), List.all_append, w_t4, ← List.take_append_drop 24 ((((words1.drop 24).drop 24).drop 24).drop 24), List.all_append, w_t5, w_t6]
  rfl
set_option maxRecDepth 65536 in
theorem w_rest : rest_1_c.before args0 about1 = true := by decide +kernel
set_option maxRecDepth 65536 in
theorem w_case : (Jvm.Cond.and given_1 narrow_1).before args0 about1 = true := by decide +kernel
set_option maxRecDepth 65536 in
theorem w_consts : constsHeld consts_1 about1 := Jvm.Lit.constsHeldB_iff.mp (by decide +kernel)
theorem w_applies : (headSpec (Jvm.Cond.code x code maxLocals ret :: tables_1) room_1).applies x e0.platform about1 = true :=
  (Spec.applies_iff w_frames).mpr ⟨w_running, w_runnable, w_alone, w_named, w_hears, w_ripe, w_room, w_tables⟩
theorem atStart : AtStart classFile x code maxLocals ret World_1 tables_1 room_1 Calls_1 rest_1 Pre_1 launch0 p0 e0 about1 theMethod args0 below0 :=
  ⟨lists_1, trivial, launch0.admits_env _ _ _, launch0.least_env, fairChoices_fair.cas, fairChoices_fair.clock, w_frames, w_args, w_heap, w_applies, ⟨w_consts, trivial⟩, w_rest, w_case⟩
end start1
theorem witness_1 : WitnessClaimed_1 := ⟨start1.p0, start1.e0, start1.about1, start1.theMethod, start1.args0, start1.below0, start1.atStart⟩
end Jvm.Pilot.@@N@@
