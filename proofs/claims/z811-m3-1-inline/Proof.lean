import JvmDerived
import JvmDerived.Pilot.@@N@@Statement
import JvmDerived.Pilot.@@N@@Code
set_option linter.unusedVariables false
set_option linter.unusedSimpArgs false
namespace Jvm.RoadKit
open Sem ClassFile Op Lib Jvm.Stand Jvm.Free Jvm.LawKit
section New
variable {p : Program} {l : Launch} {e : Env} {R : Room} {s : State} {m : MethodId} {args : Array Value} {below : List Frame} {meth : Method} {c : Code} {T : State} {locs : List Loc} {cells slots : Nat}
theorem retI (X : Stand p l e R s m args below meth c T locs cells slots) (hx : p.tables.exec = Jvm.exec) {pc : Nat} {Ls : Array Slot} {z : Int32} {rest : List Value} (hret : meth.sig.returnType = some .int) (hd : decode c.code pc = .ok (.ireturn, 1)) {fs : List Frame}
    (hl : ∀ (f : JFrame) (acts : List Action), f.method = m → f.locked = none → f.entered = [] → (doReturn e (T.setTop f) acts (some (.int z))).1 = T.setFrames fs) : Steps p.tables e below (T.setTop (mkF m pc Ls (.int z :: rest))) (T.setFrames fs) := by
  have hm' : T.vm.method? m = some meth := X.method'
  have hn : narrow .int (.int z) = .int z := rfl
  show Steps p.tables e below (T.setTop { method := m, pc := pc, locals := Ls, stack := _ :: rest, locked := none }) _
  jvm_step X.here [X.here.top, hx, hd, hm', hret, hn]
  first | (intro acts; rw [hl _ acts rfl rfl rfl]) | rw [hl _ _ rfl rfl rfl]
  exact Steps.refl _
end New
end Jvm.RoadKit
/- laws to paste: Road.backV (cut by pick.py; bodies as the Statement names them) -/
namespace Jvm.Pilot.@@N@@
namespace StrChars
open Jvm Sem ClassFile Op Lib Jvm.Stand Jvm.Free.XT Jvm.Free.ALB Jvm.Free.JM Jvm.Free
open Jvm.Lib.Cold (StaticIs)
/-- a char array whose places are chars -/
def Ch (a : Addr) (A : Cell) (U : State) : Prop := Arr .char a A U ∧ Typed .char A
theorem Ch.mv {a : Addr} {A : Cell} {U U' : State} (h : Ch a A U) (hal : U.vm.Alike U'.vm) (hh : U'.heap = U.heap) : Ch a A U' := ⟨h.1.mv hal hh, h.2⟩
theorem Ch.keep {a : Addr} {A : Cell} {U U' : State} (h : Ch a A U) (hal : U.vm.Alike U'.vm) (hk : U'.heap[a]? = some A) : Ch a A U' := ⟨h.1.keep hal hk, h.2⟩
/-- what place i of a char[]'s cell holds -/
def cv (A : Cell) (i : Nat) : Int32 := match A.slots[i]? with | some (.int x) => x | _ => 0
theorem Ch.get {a : Addr} {A : Cell} {U : State} (h : Ch a A U) {i : Nat} (hi : i < A.slots.size) : A.slots[i]? = some (.int (cv A i)) := by
  have e := Array.getElem?_eq_getElem hi
  have f := h.2 i _ e
  unfold cv; rw [e]
  generalize A.slots[i] = v at f
  cases v <;> simp [fits] at f ⊢
/-- the byte that i2b leaves of a char -/
def lo8 (x : Int32) : Int32 := x.toInt8.toInt32
theorem fits_lo8 (y : Int32) : fits .byte (.int (lo8 y)) = true := by
  have h1 := y.toInt8.le_toInt
  have h2 := y.toInt8.toInt_lt
  simp only [lo8, fits, Bool.and_eq_true, decide_eq_true_eq, Int32.le_iff_toInt_le, Int8.toInt_toInt32, show (-128 : Int32).toInt = -128 from by decide, show (127 : Int32).toInt = 127 from by decide]
  omega
/-- A' is A but that each place j of lo .. hi - 1 holds f j -/
def Laid (A A' : Cell) (lo hi : Nat) (f : Nat → Value) : Prop := A'.cls = A.cls ∧ A'.vm = A.vm ∧ A'.slots.size = A.slots.size ∧ ∀ i, A'.slots[i]? = if lo ≤ i ∧ i < hi then some (f i) else A.slots[i]?
theorem Laid.zero (A : Cell) (lo : Nat) (f : Nat → Value) : Laid A A lo (lo + 0) f := ⟨rfl, rfl, rfl, fun i => by rw [if_neg (by omega)]⟩
theorem Laid.step {A Ak : Cell} {lo k : Nat} {f : Nat → Value} {v : Value} (h : Laid A Ak lo k f) (hlo : lo ≤ k) (hk : k < Ak.slots.size) (hv : v = f k) : Laid A (Ak.setSlot k v) lo (k + 1) f := by
  refine ⟨h.1, h.2.1, by simpa [Cell.setSlot] using h.2.2.1, fun i => ?_⟩
  by_cases e : k = i
  · subst e; rw [Cell.slots_setSlot_self v hk, if_pos (by omega), hv]
  · rw [Cell.slots_setSlot_ne v e, h.2.2.2 i]
    by_cases q : lo ≤ i ∧ i < k
    · rw [if_pos q, if_pos (by omega)]
    · rw [if_neg q, if_neg (by omega)]
def U16 : String := "java/lang/StringUTF16"
namespace Cmp5
def yN : MethodName := ⟨"java/lang/StringUTF16", "compress", "([CI[BII)I"⟩
abbrev yB : ByteArray := jdk_52_method_21_code
theorem d0 : decode yB 0 = .ok (.iconst 0, 1) := by decide +kernel
theorem d1 : decode yB 1 = .ok (.istore 5, 2) := by decide +kernel
theorem d3 : decode yB 3 = .ok (.iload 5, 2) := by decide +kernel
theorem d5 : decode yB 5 = .ok (.iload 4, 2) := by decide +kernel
theorem d7 : decode yB 7 = .ok (.if_icmp (.ge) 37, 3) := by decide +kernel
theorem d10 : decode yB 10 = .ok (.aload_n 0, 1) := by decide +kernel
theorem d11 : decode yB 11 = .ok (.iload_n 1, 1) := by decide +kernel
theorem d12 : decode yB 12 = .ok (.caload, 1) := by decide +kernel
theorem d13 : decode yB 13 = .ok (.istore 6, 2) := by decide +kernel
theorem d15 : decode yB 15 = .ok (.iload 6, 2) := by decide +kernel
theorem d17 : decode yB 17 = .ok (.sipush 255, 3) := by decide +kernel
theorem d20 : decode yB 20 = .ok (.if_icmp (.le) 6, 3) := by decide +kernel
theorem d26 : decode yB 26 = .ok (.aload_n 2, 1) := by decide +kernel
theorem d27 : decode yB 27 = .ok (.iload_n 3, 1) := by decide +kernel
theorem d28 : decode yB 28 = .ok (.iload 6, 2) := by decide +kernel
theorem d30 : decode yB 30 = .ok (.i2b, 1) := by decide +kernel
theorem d31 : decode yB 31 = .ok (.bastore, 1) := by decide +kernel
theorem d32 : decode yB 32 = .ok (.iinc 1 1, 3) := by decide +kernel
theorem d35 : decode yB 35 = .ok (.iinc 3 1, 3) := by decide +kernel
theorem d38 : decode yB 38 = .ok (.iinc 5 1, 3) := by decide +kernel
theorem d41 : decode yB 41 = .ok (.goto (-38), 3) := by decide +kernel
theorem d44 : decode yB 44 = .ok (.iload 4, 2) := by decide +kernel
theorem d46 : decode yB 46 = .ok (.ireturn, 1) := by decide +kernel
def site : List Cond := []
def tab : Cond := tabOf yN yB 7 (some .int) site
def P (b : Addr) (A : Cell) (d : Addr) (B : Cell) (o q len : Nat) (args : Array Value) (s : State) : Prop := args = #[.ref b, .int (Int32.ofNat o), .ref d, .int (Int32.ofNat q), .int (Int32.ofNat len)] ∧ Ch b A s ∧ Arr .byte d B s ∧ b ≠ d ∧ o + len ≤ A.slots.size ∧ q + len ≤ B.slots.size ∧ ∀ i, i < len → ¬ 255 < cv A (o + i)
def E (b : Addr) (A : Cell) (d : Addr) (B : Cell) (o q len : Nat) (r : Option Value) (s u : State) : Prop := r = some (.int (Int32.ofNat len)) ∧ ∃ B', Put d B' s u ∧ Laid B B' q (q + len) (fun j => Value.int (lo8 (cv A (o + (j - q)))))
/-- no char of the range above 255: len; the places written hold each char's low byte -/
theorem law (l : Launch) (b : Addr) (A : Cell) (d : Addr) (B : Cell) (o q len : Nat) : Law l yN 5 5 0 0 yB 7 (some .int) site (P b A d B o q len) (E b A d B o q len) (copyLocs d q len) 0 0 := by
  refine Law.of_walk (plainFor_of_name (by decide +kernel)) (by decide +kernel) (by decide +kernel) (by decide) (fun _ _ h => by rw [h.1]; rfl) (fun _ U U' hal hh h => ⟨h.1, h.2.1.mv hal hh, h.2.2.1.mv hal hh, h.2.2.2⟩) (fun r U U' V V' h1 hal h2 h => ⟨h.1, h.2.elim fun B' q => ⟨B', q.1.mv h1 h2, q.2⟩⟩) ?_
  intro p e s m args below meth c s₁ X0 hexec hbytes hml hret hlk hnm hown hh0 W hP
  obtain ⟨rfl, hA, hB, hne, l1, l2, hp⟩ := hP
  have c1 : Steps p.tables e below (s₁.setTop (entryFrame m #[.ref b, .int (Int32.ofNat o), .ref d, .int (Int32.ofNat q), .int (Int32.ofNat len)] 7)) (s₁.setTop (mkF m 0 #[.val (.ref b), .val (.int (Int32.ofNat o)), .val (.ref d), .val (.int (Int32.ofNat q)), .val (.int (Int32.ofNat len)), .unset, .unset] [])) := entry rfl
  have hA0 := hA.1.mv X0.warmed.alike hh0
  have hB0 := hB.mv X0.warmed.alike hh0
  have a31 := hA.1.2.2.2
  have c2 : Steps p.tables e below (s₁.setTop (entryFrame m #[.ref b, .int (Int32.ofNat o), .ref d, .int (Int32.ofNat q), .int (Int32.ofNat len)] 7)) (s₁.setTop (mkF m 3 #[.val (.ref b), .val (.int (Int32.ofNat o)), .val (.ref d), .val (.int (Int32.ofNat q)), .val (.int (Int32.ofNat len)), .val (.int 0), .unset] [])) := c1.trans (by
    refine iconstV X0.here hexec rfl 0 (hb hbytes d0) (by decide) ?_
    refine XS.istore X0.here hexec rfl (hb hbytes d1) rfl rfl ?_
    exact Steps.refl _)
  have loop : ∀ (r i : Nat), i + r = len → ∀ (z : Slot), (z = .unset ∨ ∃ w, z = .val w ∧ w.category = 1) → ∀ (Tl : State) (Bk : Cell), Stand p l e { frames := 0, locals := 0, cells := 0, slots := 0 } s m #[.ref b, .int (Int32.ofNat o), .ref d, .int (Int32.ofNat q), .int (Int32.ofNat len)] below meth c Tl ([] ++ copyLocs d q i) 0 0 → Put d Bk s₁ Tl → Laid B Bk q (q + i) (fun j => Value.int (lo8 (cv A (o + (j - q))))) →
      Steps p.tables e below (s₁.setTop (entryFrame m #[.ref b, .int (Int32.ofNat o), .ref d, .int (Int32.ofNat q), .int (Int32.ofNat len)] 7)) (Tl.setTop (mkF m 3 #[.val (.ref b), .val (.int (Int32.ofNat (o + i))), .val (.ref d), .val (.int (Int32.ofNat (q + i))), .val (.int (Int32.ofNat len)), .val (.int (Int32.ofNat i)), z] [])) → ∃ (T' : State) (B' : Cell) (z' : Slot), Stand p l e { frames := 0, locals := 0, cells := 0, slots := 0 } s m #[.ref b, .int (Int32.ofNat o), .ref d, .int (Int32.ofNat q), .int (Int32.ofNat len)] below meth c T' ([] ++ copyLocs d q len) 0 0 ∧ Put d B' s₁ T' ∧ Laid B B' q (q + len) (fun j => Value.int (lo8 (cv A (o + (j - q))))) ∧
      Steps p.tables e below (s₁.setTop (entryFrame m #[.ref b, .int (Int32.ofNat o), .ref d, .int (Int32.ofNat q), .int (Int32.ofNat len)] 7)) (T'.setTop (mkF m 3 #[.val (.ref b), .val (.int (Int32.ofNat (o + len))), .val (.ref d), .val (.int (Int32.ofNat (q + len))), .val (.int (Int32.ofNat len)), .val (.int (Int32.ofNat len)), z'] [])) := by
    intro r
    induction r with
    | zero =>
      intro i hi z hz Tl Bk Xl pl fl cl
      have hil : i = len := by omega
      rw [hil] at Xl fl cl
      exact ⟨Tl, Bk, z, Xl, pl, fl, cl⟩
    | succ r ih =>
      intro i hi z hz Tl Bk Xl pl fl cl
      have all := X0.warmed.alike.symm.trans Xl.warmed.alike
      have hAl := hA0.keep all (pl.other hne hA0.1)
      have hBk := hB0.like all pl.1 fl.1 fl.2.1 fl.2.2.1
      have hlt : q + i < Bk.slots.size := by rw [fl.2.2.1]; omega
      have c3 : Steps p.tables e below (s₁.setTop (entryFrame m #[.ref b, .int (Int32.ofNat o), .ref d, .int (Int32.ofNat q), .int (Int32.ofNat len)] 7)) (Tl.setTop (mkF m 12 #[.val (.ref b), .val (.int (Int32.ofNat (o + i))), .val (.ref d), .val (.int (Int32.ofNat (q + i))), .val (.int (Int32.ofNat len)), .val (.int (Int32.ofNat i)), z] [.int (Int32.ofNat (o + i)), .ref b])) := cl.trans (by
        refine XS.iload Xl.here hexec rfl (hb hbytes d3) rfl ?_
        refine XS.iload Xl.here hexec rfl (hb hbytes d5) rfl ?_
        refine XS.icmpNo Xl.here hexec rfl (hb hbytes d7) rfl (ii_ge_f (lt32 (by omega) (by omega))) ?_
        refine XS.aloadN Xl.here hexec rfl (hb hbytes d10) rfl rfl ?_
        refine XS.iloadN Xl.here hexec rfl (hb hbytes d11) rfl ?_
        exact Steps.refl _)
      have c4 : Steps p.tables e below (s₁.setTop (entryFrame m #[.ref b, .int (Int32.ofNat o), .ref d, .int (Int32.ofNat q), .int (Int32.ofNat len)] 7)) (Tl.setTop (mkF m 13 #[.val (.ref b), .val (.int (Int32.ofNat (o + i))), .val (.ref d), .val (.int (Int32.ofNat (q + i))), .val (.int (Int32.ofNat len)), .val (.int (Int32.ofNat i)), z] [.int (cv A (o + i))])) := c3.trans (by
        refine Xl.aget hexec hAl rfl (hA.get (i := o + i) (by omega)) rfl rfl (hb hbytes d12) ?_
        exact Steps.refl _)
      have c5 : Steps p.tables e below (s₁.setTop (entryFrame m #[.ref b, .int (Int32.ofNat o), .ref d, .int (Int32.ofNat q), .int (Int32.ofNat len)] 7)) (Tl.setTop (mkF m 15 #[.val (.ref b), .val (.int (Int32.ofNat (o + i))), .val (.ref d), .val (.int (Int32.ofNat (q + i))), .val (.int (Int32.ofNat len)), .val (.int (Int32.ofNat i)), .val (.int (cv A (o + i)))] [])) := c4.trans (by
        refine XS.istoreS Xl.here hexec rfl (hb hbytes d13) rfl rfl hz ?_
        exact Steps.refl _)
      have c6 : Steps p.tables e below (s₁.setTop (entryFrame m #[.ref b, .int (Int32.ofNat o), .ref d, .int (Int32.ofNat q), .int (Int32.ofNat len)] 7)) (Tl.setTop (mkF m 31 #[.val (.ref b), .val (.int (Int32.ofNat (o + i))), .val (.ref d), .val (.int (Int32.ofNat (q + i))), .val (.int (Int32.ofNat len)), .val (.int (Int32.ofNat i)), .val (.int (cv A (o + i)))] [.int (lo8 (cv A (o + i))), .int (Int32.ofNat (q + i)), .ref d])) := c5.trans (by
        refine XS.iload Xl.here hexec rfl (hb hbytes d15) rfl ?_
        refine sipushV Xl.here hexec rfl 255 (hb hbytes d17) (by decide) ?_
        refine XS.icmpYes Xl.here hexec rfl (pc0 := 20) rfl (hb hbytes d20) rfl (ii_le_t (hp i (by omega))) (by decide) rfl ?_
        refine XS.aloadN Xl.here hexec rfl (hb hbytes d26) rfl rfl ?_
        refine XS.iloadN Xl.here hexec rfl (hb hbytes d27) rfl ?_
        refine XS.iload Xl.here hexec rfl (hb hbytes d28) rfl ?_
        refine i2b Xl.here hexec rfl (hb hbytes d30) rfl ?_
        exact Steps.refl _)
      obtain ⟨T7, X7, p7, st7⟩ := Xl.aput hexec hBk rfl hlt rfl (fits_lo8 (cv A (o + i))) (g := (mkF m 31 #[.val (.ref b), .val (.int (Int32.ofNat (o + i))), .val (.ref d), .val (.int (Int32.ofNat (q + i))), .val (.int (Int32.ofNat len)), .val (.int (Int32.ofNat i)), .val (.int (cv A (o + i)))] [.int (lo8 (cv A (o + i))), .int (Int32.ofNat (q + i)), .ref d])) rfl (rest := []) rfl (hb hbytes d31)
      have c8 : Steps p.tables e below (s₁.setTop (entryFrame m #[.ref b, .int (Int32.ofNat o), .ref d, .int (Int32.ofNat q), .int (Int32.ofNat len)] 7)) (T7.setTop (mkF m 32 #[.val (.ref b), .val (.int (Int32.ofNat (o + i))), .val (.ref d), .val (.int (Int32.ofNat (q + i))), .val (.int (Int32.ofNat len)), .val (.int (Int32.ofNat i)), .val (.int (cv A (o + i)))] [])) := c6.trans (st7 _ (Steps.refl _))
      have c9 : Steps p.tables e below (s₁.setTop (entryFrame m #[.ref b, .int (Int32.ofNat o), .ref d, .int (Int32.ofNat q), .int (Int32.ofNat len)] 7)) (T7.setTop (mkF m 3 #[.val (.ref b), .val (.int (Int32.ofNat (o + i) + 1)), .val (.ref d), .val (.int (Int32.ofNat (q + i) + 1)), .val (.int (Int32.ofNat len)), .val (.int (Int32.ofNat i + 1)), .val (.int (cv A (o + i)))] [])) := c8.trans (by
        refine iincV X7.here hexec rfl 1 (hb hbytes d32) (by decide) rfl rfl ?_
        refine iincV X7.here hexec rfl 1 (hb hbytes d35) (by decide) rfl rfl ?_
        refine iincV X7.here hexec rfl 1 (hb hbytes d38) (by decide) rfl rfl ?_
        refine XS.goto X7.here hexec rfl (pc0 := 41) rfl (hb hbytes d41) (by decide) rfl ?_
        exact Steps.refl _)
      have c10 : Steps p.tables e below (s₁.setTop (entryFrame m #[.ref b, .int (Int32.ofNat o), .ref d, .int (Int32.ofNat q), .int (Int32.ofNat len)] 7)) (T7.setTop (mkF m 3 #[.val (.ref b), .val (.int (Int32.ofNat (o + (i + 1)))), .val (.ref d), .val (.int (Int32.ofNat (q + (i + 1)))), .val (.int (Int32.ofNat len)), .val (.int (Int32.ofNat (i + 1))), .val (.int (cv A (o + i)))] [])) := by
        have := c9
        rw [succ32, succ32, succ32] at this
        exact this
      exact ih (i + 1) (by omega) _ (Or.inr ⟨_, rfl, rfl⟩) T7 _ (by rw [copyLocs_step, ← List.append_assoc]; exact X7) (pl.trans p7) (fl.step (by omega) hlt (by simp)) c10
  obtain ⟨T9, B9, z9, X9, p9, f9, g9⟩ := loop len 0 (by omega) .unset (Or.inl rfl) s₁ B (by simpa [copyLocs] using X0) ⟨hB0.1, fun _ _ => rfl, rfl⟩ (Laid.zero _ _ _) c2
  have c11 : Steps p.tables e below (s₁.setTop (entryFrame m #[.ref b, .int (Int32.ofNat o), .ref d, .int (Int32.ofNat q), .int (Int32.ofNat len)] 7)) (T9.setTop (mkF m 46 #[.val (.ref b), .val (.int (Int32.ofNat (o + len))), .val (.ref d), .val (.int (Int32.ofNat (q + len))), .val (.int (Int32.ofNat len)), .val (.int (Int32.ofNat len)), z9] [.int (Int32.ofNat len)])) := g9.trans (by
    refine XS.iload X9.here hexec rfl (hb hbytes d3) rfl ?_
    refine XS.iload X9.here hexec rfl (hb hbytes d5) rfl ?_
    refine XS.icmpYes X9.here hexec rfl (pc0 := 7) rfl (hb hbytes d7) rfl (ii_ge_t (nlt32 (by omega) (Nat.le_refl _))) (by decide) rfl ?_
    refine XS.iload X9.here hexec rfl (hb hbytes d44) rfl ?_
    exact Steps.refl _)
  exact ⟨T9, some (.int (Int32.ofNat len)), _, _, _, X9, by simp, rfl, rfl, (fun h => by cases h), ⟨rfl, B9, p9.from hh0, f9⟩, fun fs hl => c11.trans (X9.ireturnOut hexec hret rfl (Or.inl rfl) (hb hbytes d46) hl)⟩
end Cmp5
namespace Cmp3
def yN : MethodName := ⟨"java/lang/StringUTF16", "compress", "([CII)[B"⟩
abbrev yB : ByteArray := jdk_52_method_16_code
theorem d0 : decode yB 0 = .ok (.iload_n 2, 1) := by decide +kernel
theorem d1 : decode yB 1 = .ok (.newarray .byte, 2) := by decide +kernel
theorem d3 : decode yB 3 = .ok (.astore_n 3, 1) := by decide +kernel
theorem d4 : decode yB 4 = .ok (.aload_n 0, 1) := by decide +kernel
theorem d5 : decode yB 5 = .ok (.iload_n 1, 1) := by decide +kernel
theorem d6 : decode yB 6 = .ok (.aload_n 3, 1) := by decide +kernel
theorem d7 : decode yB 7 = .ok (.iconst 0, 1) := by decide +kernel
theorem d8 : decode yB 8 = .ok (.iload_n 2, 1) := by decide +kernel
theorem d9 : decode yB 9 = .ok (.invokestatic 115, 3) := by decide +kernel
theorem d12 : decode yB 12 = .ok (.istore 4, 2) := by decide +kernel
theorem d14 : decode yB 14 = .ok (.iload 4, 2) := by decide +kernel
theorem d16 : decode yB 16 = .ok (.iload_n 2, 1) := by decide +kernel
theorem d17 : decode yB 17 = .ok (.if_icmp (.eq) 40, 3) := by decide +kernel
theorem d57 : decode yB 57 = .ok (.aload_n 3, 1) := by decide +kernel
theorem d58 : decode yB 58 = .ok (.areturn, 1) := by decide +kernel
def site : List Cond := [.arrayClass .byte, Cmp5.tab] ++ staticW U16 115 Cmp5.yN
def tab : Cond := tabOf yN yB 6 (some (.array .byte)) site
def P (b : Addr) (A : Cell) (o len : Nat) (args : Array Value) (s : State) : Prop := args = #[.ref b, .int (Int32.ofNat o), .int (Int32.ofNat len)] ∧ Ch b A s ∧ o + len ≤ A.slots.size ∧ len ≤ 536870912 ∧ ∀ i, i < len → ¬ 255 < cv A (o + i)
def E (b : Addr) (A : Cell) (o len : Nat) (r : Option Value) (s u : State) : Prop := NewArr .byte "[B" len (fun j => .int (lo8 (cv A (o + j)))) r s u ∧ u.heap.size = s.heap.size + 1
/-- no char of the range above 255: a new byte[] of their low bytes -/
theorem law (l : Launch) (b : Addr) (A : Cell) (o len : Nat) : Law l yN 3 3 1 18 yB 6 (some (.array .byte)) site (P b A o len) (E b A o len) [] 1 len := by
  refine Law.of_walk (plainFor_of_name (by decide +kernel)) (by decide +kernel) (by decide +kernel) (by decide) (fun _ _ h => by rw [h.1]; rfl) (fun _ U U' hal hh h => ⟨h.1, h.2.1.mv hal hh, h.2.2⟩) (fun r U U' V V' h1 hal h2 h => ⟨NewArr.mv r U U' V V' h1 hal h2 h.1, by rw [h1, h2]; exact h.2⟩) ?_
  intro p e s m args below meth c s₁ X0 hexec hbytes hml hret hlk hnm hown hh0 W hP
  obtain ⟨rfl, hA, l1, l2, hp⟩ := hP
  have a31 := hA.1.2.2.2
  have c1 : Steps p.tables e below (s₁.setTop (entryFrame m #[.ref b, .int (Int32.ofNat o), .int (Int32.ofNat len)] 6)) (s₁.setTop (mkF m 0 #[.val (.ref b), .val (.int (Int32.ofNat o)), .val (.int (Int32.ofNat len)), .unset, .unset, .unset] [])) := entry rfl
  have c2 : Steps p.tables e below (s₁.setTop (entryFrame m #[.ref b, .int (Int32.ofNat o), .int (Int32.ofNat len)] 6)) (s₁.setTop (mkF m 1 #[.val (.ref b), .val (.int (Int32.ofNat o)), .val (.int (Int32.ofNat len)), .unset, .unset, .unset] [.int (Int32.ofNat len)])) := c1.trans (by
    refine XS.iloadN X0.here hexec rfl (hb hbytes d0) rfl ?_
    exact Steps.refl _)
  obtain ⟨T3, B3, X3, ba3, bs3, bv3, bh3, bf3, st3⟩ := X0.anew hexec (atype := .byte) (wk W (.arrayClass .byte)) rfl (by show len * 1 ≤ _; omega) (by omega) (g := (mkF m 1 #[.val (.ref b), .val (.int (Int32.ofNat o)), .val (.int (Int32.ofNat len)), .unset, .unset, .unset] [.int (Int32.ofNat len)])) rfl (hb hbytes d1) (rest := []) rfl (Nat.le_refl _) (by show 0 + len ≤ len; omega)
  rw [hh0] at ba3 st3
  have kp3 : XT.Kept s T3 := (XT.Kept.of_eq hh0).push bh3
  have hA3 := hA.keep X3.warmed.alike (kp3 _ _ hA.1.1)
  have hne : b ≠ s.heap.size := hA.1.ne
  have c4 : Steps p.tables e below (s₁.setTop (entryFrame m #[.ref b, .int (Int32.ofNat o), .int (Int32.ofNat len)] 6)) (T3.setTop (mkF m 3 #[.val (.ref b), .val (.int (Int32.ofNat o)), .val (.int (Int32.ofNat len)), .unset, .unset, .unset] [.ref s.heap.size])) := c2.trans (st3 _ (Steps.refl _))
  have c5 : Steps p.tables e below (s₁.setTop (entryFrame m #[.ref b, .int (Int32.ofNat o), .int (Int32.ofNat len)] 6)) (T3.setTop (mkF m 9 #[.val (.ref b), .val (.int (Int32.ofNat o)), .val (.int (Int32.ofNat len)), .val (.ref s.heap.size), .unset, .unset] [.int (Int32.ofNat len), .int 0, .ref s.heap.size, .int (Int32.ofNat o), .ref b])) := c4.trans (by
    refine XS.astoreN X3.here hexec rfl (hb hbytes d3) rfl rfl rfl ?_
    refine XS.aloadN X3.here hexec rfl (hb hbytes d4) rfl rfl ?_
    refine XS.iloadN X3.here hexec rfl (hb hbytes d5) rfl ?_
    refine XS.aloadN X3.here hexec rfl (hb hbytes d6) rfl rfl ?_
    refine iconstV X3.here hexec rfl 0 (hb hbytes d7) (by decide) ?_
    refine XS.iloadN X3.here hexec rfl (hb hbytes d8) rfl ?_
    exact Steps.refl _)
  obtain ⟨v6, T6, X6, E6, g6⟩ := X3.callS hexec (Cmp5.law l b A s.heap.size B3 o 0 len) hown (wks W (staticW U16 115 Cmp5.yN)) (wk W Cmp5.tab) (W := 0) (Nat.le_of_ble_eq_true rfl) (Nat.le_of_ble_eq_true rfl) (Nat.le_refl _) (by show 0 + len + 0 ≤ len; omega) (g := (mkF m 9 #[.val (.ref b), .val (.int (Int32.ofNat o)), .val (.int (Int32.ofNat len)), .val (.ref s.heap.size), .unset, .unset] [.int (Int32.ofNat len), .int (Int32.ofNat 0), .ref s.heap.size, .int (Int32.ofNat o), .ref b])) rfl (by rw [hml]; rfl) c5 (argsL := [.ref b, .int (Int32.ofNat o), .ref s.heap.size, .int (Int32.ofNat 0), .int (Int32.ofNat len)]) (rest := []) rfl rfl (by show 2 * 0 + 0 ≤ _; decide) (hb hbytes d9) (⟨rfl, hA3, ba3, hne, l1, by rw [bs3]; simp, hp⟩)
  obtain ⟨rfl, B6, p6, f6⟩ := E6
  have c7 : Steps p.tables e below (s₁.setTop (entryFrame m #[.ref b, .int (Int32.ofNat o), .int (Int32.ofNat len)] 6)) (T6.setTop (mkF m 12 #[.val (.ref b), .val (.int (Int32.ofNat o)), .val (.int (Int32.ofNat len)), .val (.ref s.heap.size), .unset, .unset] [.int (Int32.ofNat len)])) := g6
  have c8 : Steps p.tables e below (s₁.setTop (entryFrame m #[.ref b, .int (Int32.ofNat o), .int (Int32.ofNat len)] 6)) (T6.setTop (mkF m 58 #[.val (.ref b), .val (.int (Int32.ofNat o)), .val (.int (Int32.ofNat len)), .val (.ref s.heap.size), .val (.int (Int32.ofNat len)), .unset] [.ref s.heap.size])) := c7.trans (by
    refine XS.istore X6.here hexec rfl (hb hbytes d12) rfl rfl ?_
    refine XS.iload X6.here hexec rfl (hb hbytes d14) rfl ?_
    refine XS.iloadN X6.here hexec rfl (hb hbytes d16) rfl ?_
    refine XS.icmpYes X6.here hexec rfl (pc0 := 17) rfl (hb hbytes d17) rfl (ii_eq_t rfl) (by decide) rfl ?_
    refine XS.aloadN X6.here hexec rfl (hb hbytes d57) rfl rfl ?_
    exact Steps.refl _)
  have X8 := X6.wide (L' := []) (cells' := 1) (slots' := len) (fun x hx hlt => by
    simp only [List.nil_append, copyLocs, List.mem_map, List.mem_range] at hx
    obtain ⟨i, -, rfl⟩ := hx
    exact absurd hlt (Nat.lt_irrefl _)) (Nat.le_refl _) (by omega)
  exact ⟨T6, some (.ref s.heap.size), _, _, _, X8, rfl, rfl, rfl, (fun h => by cases h), ⟨⟨rfl, B6, ba3.like (X3.warmed.alike.symm.trans X6.warmed.alike) p6.1 f6.1 f6.2.1 f6.2.2.1, f6.2.1.trans bv3, by rw [X6.warmed.alike.findClass, f6.1]; exact bf3, by rw [f6.2.2.1, bs3]; simp, fun j hj => by rw [f6.2.2.2 j, if_pos (by omega)]; rfl, kp3.put p6 (Nat.le_refl _)⟩, by rw [p6.2.2, bh3, hh0]; simp⟩, fun fs hl => c8.trans (X8.areturnOut hexec rfl hret rfl (hb hbytes d58) hl)⟩
end Cmp3
namespace CodL
def yN : MethodName := ⟨"java/lang/StringUTF16", "coderFromArrayLen", "([BI)B"⟩
abbrev yB : ByteArray := jdk_52_method_15_code
theorem d0 : decode yB 0 = .ok (.iload_n 1, 1) := by decide +kernel
theorem d1 : decode yB 1 = .ok (.aload_n 0, 1) := by decide +kernel
theorem d2 : decode yB 2 = .ok (.arraylength, 1) := by decide +kernel
theorem d3 : decode yB 3 = .ok (.isub, 1) := by decide +kernel
theorem d4 : decode yB 4 = .ok (.bipush 31, 2) := by decide +kernel
theorem d6 : decode yB 6 = .ok (.iushr, 1) := by decide +kernel
theorem d7 : decode yB 7 = .ok (.i2b, 1) := by decide +kernel
theorem d8 : decode yB 8 = .ok (.ireturn, 1) := by decide +kernel
def site : List Cond := []
def tab : Cond := tabOf yN yB 2 (some .byte) site
def P (d : Addr) (B : Cell) (args : Array Value) (s : State) : Prop := args = #[.ref d, .int (Int32.ofNat B.slots.size)] ∧ Arr .byte d B s
def E (r : Option Value) (s u : State) : Prop := XT.PureE (some (.int 0)) r s u
/-- an array as long as the number of chars: LATIN1 -/
theorem law (l : Launch) (d : Addr) (B : Cell) : Law l yN 2 2 0 0 yB 2 (some .byte) site (P d B) E [] 0 0 := by
  refine Law.of_walk (plainFor_of_name (by decide +kernel)) (by decide +kernel) (by decide +kernel) (by decide) (fun _ _ h => by rw [h.1]; rfl) (fun _ U U' hal hh h => ⟨h.1, h.2.mv hal hh⟩) (fun r U U' V V' h1 hal h2 h => XT.PureE.mv r U U' V V' h1 hal h2 h) ?_
  intro p e s m args below meth c s₁ X0 hexec hbytes hml hret hlk hnm hown hh0 W hP
  obtain ⟨rfl, hB⟩ := hP
  have hB0 := hB.mv X0.warmed.alike hh0
  have c1 : Steps p.tables e below (s₁.setTop (entryFrame m #[.ref d, .int (Int32.ofNat B.slots.size)] 2)) (s₁.setTop (mkF m 0 #[.val (.ref d), .val (.int (Int32.ofNat B.slots.size))] [])) := entry rfl
  have c2 : Steps p.tables e below (s₁.setTop (entryFrame m #[.ref d, .int (Int32.ofNat B.slots.size)] 2)) (s₁.setTop (mkF m 2 #[.val (.ref d), .val (.int (Int32.ofNat B.slots.size))] [.ref d, .int (Int32.ofNat B.slots.size)])) := c1.trans (by
    refine XS.iloadN X0.here hexec rfl (hb hbytes d0) rfl ?_
    refine XS.aloadN X0.here hexec rfl (hb hbytes d1) rfl rfl ?_
    exact Steps.refl _)
  have c3 : Steps p.tables e below (s₁.setTop (entryFrame m #[.ref d, .int (Int32.ofNat B.slots.size)] 2)) (s₁.setTop (mkF m 8 #[.val (.ref d), .val (.int (Int32.ofNat B.slots.size))] [.int (lo8 (ushr (Int32.ofNat B.slots.size - Int32.ofNat B.slots.size) 31))])) := c2.trans (by
    refine X0.alen hexec hB0 rfl rfl (hb hbytes d2) ?_
    refine XS.isub X0.here hexec rfl (hb hbytes d3) rfl ?_
    refine bipushV X0.here hexec rfl 31 (hb hbytes d4) (by decide) ?_
    refine iushr X0.here hexec rfl (hb hbytes d6) rfl ?_
    refine i2b X0.here hexec rfl (hb hbytes d7) rfl ?_
    exact Steps.refl _)
  have e0 : lo8 (ushr (Int32.ofNat B.slots.size - Int32.ofNat B.slots.size) 31) = 0 := by rw [Int32.sub_self]; decide
  rw [e0] at c3
  exact ⟨s₁, some (.int 0), _, _, _, X0, rfl, rfl, rfl, (fun h => by cases h), ⟨rfl, hh0⟩, fun fs hl => c3.trans (X0.ireturnOut hexec hret rfl (Or.inr (Or.inr (Or.inl rfl))) (hb hbytes d8) hl)⟩
end CodL
/-- the String at a is Latin-1 over a new byte[] (the heap's one new cell): the low bytes of the len chars of A from o on; every cell but a is kept -/
def Got (a : Addr) (D : Cell) (fV fC : Field) (A : Cell) (o len : Nat) (r : Option Value) (s u : State) : Prop := r = none ∧ ∃ D' V : Cell, Blank "java/lang/String" a D' u ∧ Same D D' [fV.slot, fC.slot] ∧ D'.slots[fV.slot]? = some (.ref s.heap.size) ∧ D'.slots[fC.slot]? = some (.int 0) ∧ Arr .byte s.heap.size V u ∧ V.vm = .none ∧ u.vm.findClass "[B" = some V.cls ∧ V.slots.size = len ∧ (∀ j, j < len → V.slots[j]? = some (.int (lo8 (cv A (o + j))))) ∧ (∀ (y : Addr) (c : Cell), y ≠ a → s.heap[y]? = some c → u.heap[y]? = some c) ∧ u.heap.size = s.heap.size + 1
theorem Got.mv {a : Addr} {D A : Cell} {fV fC : Field} {o len : Nat} : ∀ r (U U' V V' : State), U'.heap = U.heap → V.vm.Alike V'.vm → V'.heap = V.heap → Got a D fV fC A o len r U V → Got a D fV fC A o len r U' V' :=
  fun r U U' V V' h1 hal h2 ⟨e0, D', X, a1, a2, a3, a4, a5, a6, a7, a8, a9, a10, a11⟩ => ⟨e0, D', X, a1.mv hal h2, a2, by rw [h1]; exact a3, a4, by rw [h1]; exact a5.mv hal h2, a6, by rw [hal.findClass]; exact a7, a8, a9, by rw [h1, h2]; exact a10, by rw [h1, h2]; exact a11⟩
namespace New4
def yN : MethodName := ⟨"java/lang/String", "<init>", "([CIILjava/lang/Void;)V"⟩
abbrev yB : ByteArray := jdk_42_method_149_code
theorem d0 : decode yB 0 = .ok (.aload_n 0, 1) := by decide +kernel
theorem d1 : decode yB 1 = .ok (.invokespecial 1, 3) := by decide +kernel
theorem d4 : decode yB 4 = .ok (.iload_n 3, 1) := by decide +kernel
theorem d5 : decode yB 5 = .ok (.ifCond (.ne) 22, 3) := by decide +kernel
theorem d27 : decode yB 27 = .ok (.getstatic 38, 3) := by decide +kernel
theorem d30 : decode yB 30 = .ok (.ifCond (.eq) 28, 3) := by decide +kernel
theorem d33 : decode yB 33 = .ok (.aload_n 1, 1) := by decide +kernel
theorem d34 : decode yB 34 = .ok (.iload_n 2, 1) := by decide +kernel
theorem d35 : decode yB 35 = .ok (.iload_n 3, 1) := by decide +kernel
theorem d36 : decode yB 36 = .ok (.invokestatic 177, 3) := by decide +kernel
theorem d39 : decode yB 39 = .ok (.astore 5, 2) := by decide +kernel
theorem d41 : decode yB 41 = .ok (.aload_n 0, 1) := by decide +kernel
theorem d42 : decode yB 42 = .ok (.aload 5, 2) := by decide +kernel
theorem d44 : decode yB 44 = .ok (.iload_n 3, 1) := by decide +kernel
theorem d45 : decode yB 45 = .ok (.invokestatic 47, 3) := by decide +kernel
theorem d48 : decode yB 48 = .ok (.putfield 15, 3) := by decide +kernel
theorem d51 : decode yB 51 = .ok (.aload_n 0, 1) := by decide +kernel
theorem d52 : decode yB 52 = .ok (.aload 5, 2) := by decide +kernel
theorem d54 : decode yB 54 = .ok (.putfield 9, 3) := by decide +kernel
theorem d57 : decode yB 57 = .ok (.return_, 1) := by decide +kernel
def site : List Cond := [.fieldLink "java/lang/String" 38 "java/lang/String" "COMPACT_STRINGS" "Z", Cmp3.tab, CodL.tab, .laysFinal "java/lang/String" "java/lang/String" "value" "[B", .fieldLink "java/lang/String" 9 "java/lang/String" "value" "[B", .laysFinal "java/lang/String" "java/lang/String" "coder" "B", .fieldLink "java/lang/String" 15 "java/lang/String" "coder" "B"] ++ objW "java/lang/String" 1 ++ staticW "java/lang/String" 177 Cmp3.yN ++ staticW "java/lang/String" 47 CodL.yN
def tab : Cond := tabOf yN yB 6 none site
def P (a : Addr) (D : Cell) (fV fC : Field) (b : Addr) (A : Cell) (z : Int32) (o len : Nat) (args : Array Value) (s : State) : Prop := args = #[.ref a, .ref b, .int (Int32.ofNat o), .int (Int32.ofNat len), .null] ∧ Blank "java/lang/String" a D s ∧ Found "java/lang/String" "value" "[B" fV s ∧ Found "java/lang/String" "coder" "B" fC s ∧ Ch b A s ∧ StaticIs s "java/lang/String" "COMPACT_STRINGS" "Z" (.int z) ∧ ¬ z = 0 ∧ 0 < len ∧ o + len ≤ A.slots.size ∧ len ≤ 536870912 ∧ ∀ i, i < len → ¬ 255 < cv A (o + i)
def E (a : Addr) (D : Cell) (fV fC : Field) (A : Cell) (o len : Nat) (r : Option Value) (s u : State) : Prop := Got a D fV fC A o len r s u
/-- len > 0, no char of the range above 255: a Latin-1 String of their low bytes -/
theorem law (l : Launch) (a : Addr) (D : Cell) (fV fC : Field) (b : Addr) (A : Cell) (z : Int32) (o len : Nat) : Law l yN 5 4 2 35 yB 6 none site (P a D fV fC b A z o len) (E a D fV fC A o len) [⟨a, fC.slot⟩, ⟨a, fV.slot⟩] 1 len := by
  refine Law.of_walk (plainFor_of_name (by decide +kernel)) (by decide +kernel) (by decide +kernel) (by decide) (fun _ _ h => by rw [h.1]; rfl) (fun _ U U' hal hh h => ⟨h.1, h.2.1.mv hal hh, h.2.2.1.al hal, h.2.2.2.1.al hal, h.2.2.2.2.1.mv hal hh, h.2.2.2.2.2.1.there hal hh, h.2.2.2.2.2.2⟩) (fun r U U' V V' h1 hal h2 h => Got.mv r U U' V V' h1 hal h2 h) ?_
  intro p e s m args below meth c s₁ X0 hexec hbytes hml hret hlk hnm hown hh0 W hP
  obtain ⟨rfl, hB, f1, f2, hA, s1, hz, l0, l1, l2, hp⟩ := hP
  have a31 := hA.1.2.2.2
  have c1 : Steps p.tables e below (s₁.setTop (entryFrame m #[.ref a, .ref b, .int (Int32.ofNat o), .int (Int32.ofNat len), .null] 6)) (s₁.setTop (mkF m 0 #[.val (.ref a), .val (.ref b), .val (.int (Int32.ofNat o)), .val (.int (Int32.ofNat len)), .val .null, .unset] [])) := entry rfl
  have c2 : Steps p.tables e below (s₁.setTop (entryFrame m #[.ref a, .ref b, .int (Int32.ofNat o), .int (Int32.ofNat len), .null] 6)) (s₁.setTop (mkF m 1 #[.val (.ref a), .val (.ref b), .val (.int (Int32.ofNat o)), .val (.int (Int32.ofNat len)), .val .null, .unset] [.ref a])) := c1.trans (by
    refine XS.aloadN X0.here hexec rfl (hb hbytes d0) rfl rfl ?_
    exact Steps.refl _)
  obtain ⟨T3, X3, q3, st3⟩ := X0.oinit hexec hown (wks W (objW "java/lang/String" 1)) (g := (mkF m 1 #[.val (.ref a), .val (.ref b), .val (.int (Int32.ofNat o)), .val (.int (Int32.ofNat len)), .val .null, .unset] [.ref a])) rfl (by rw [hml]; rfl) (rest := []) rfl (hb hbytes d1) (W := 0) (by show 2 * 0 + 0 ≤ _; decide) (Nat.le_of_ble_eq_true rfl) (Nat.le_of_ble_eq_true rfl)
  have hh3 := q3.trans hh0
  have c4 : Steps p.tables e below (s₁.setTop (entryFrame m #[.ref a, .ref b, .int (Int32.ofNat o), .int (Int32.ofNat len), .null] 6)) (T3.setTop (mkF m 27 #[.val (.ref a), .val (.ref b), .val (.int (Int32.ofNat o)), .val (.int (Int32.ofNat len)), .val .null, .unset] [])) := (c2.trans (st3 _ (Steps.refl _))).trans (by
    refine XS.iloadN X3.here hexec rfl (hb hbytes d4) rfl ?_
    refine XS.ifYes X3.here hexec rfl (pc0 := 5) rfl (hb hbytes d5) rfl (i0_ne_t (nz32 (by omega) l0)) (by decide) rfl ?_
    exact Steps.refl _)
  obtain ⟨T5, X5, q5, st5⟩ := X3.sget hexec hown (wk W (.fieldLink "java/lang/String" 38 "java/lang/String" "COMPACT_STRINGS" "Z")) s1 (fun _ _ h => by rw [hh3]; exact h) (g := (mkF m 27 #[.val (.ref a), .val (.ref b), .val (.int (Int32.ofNat o)), .val (.int (Int32.ofNat len)), .val .null, .unset] [])) rfl (hb hbytes d27)
  have hh5 := q5.trans hh3
  have c6 : Steps p.tables e below (s₁.setTop (entryFrame m #[.ref a, .ref b, .int (Int32.ofNat o), .int (Int32.ofNat len), .null] 6)) (T5.setTop (mkF m 30 #[.val (.ref a), .val (.ref b), .val (.int (Int32.ofNat o)), .val (.int (Int32.ofNat len)), .val .null, .unset] [.int z])) := c4.trans (st5 _ (Steps.refl _))
  have c7 : Steps p.tables e below (s₁.setTop (entryFrame m #[.ref a, .ref b, .int (Int32.ofNat o), .int (Int32.ofNat len), .null] 6)) (T5.setTop (mkF m 36 #[.val (.ref a), .val (.ref b), .val (.int (Int32.ofNat o)), .val (.int (Int32.ofNat len)), .val .null, .unset] [.int (Int32.ofNat len), .int (Int32.ofNat o), .ref b])) := c6.trans (by
    refine XS.ifNo X5.here hexec rfl (hb hbytes d30) rfl (i0_eq_f hz) ?_
    refine XS.aloadN X5.here hexec rfl (hb hbytes d33) rfl rfl ?_
    refine XS.iloadN X5.here hexec rfl (hb hbytes d34) rfl ?_
    refine XS.iloadN X5.here hexec rfl (hb hbytes d35) rfl ?_
    exact Steps.refl _)
  obtain ⟨v8, T8, X8, E8, g8⟩ := X5.callS hexec (Cmp3.law l b A o len) hown (wks W (staticW "java/lang/String" 177 Cmp3.yN)) (wk W Cmp3.tab) (W := 0) (Nat.le_of_ble_eq_true rfl) (Nat.le_of_ble_eq_true rfl) (Nat.le_refl _) (by show 0 + len ≤ len; omega) (g := (mkF m 36 #[.val (.ref a), .val (.ref b), .val (.int (Int32.ofNat o)), .val (.int (Int32.ofNat len)), .val .null, .unset] [.int (Int32.ofNat len), .int (Int32.ofNat o), .ref b])) rfl (by rw [hml]; rfl) c7 (argsL := [.ref b, .int (Int32.ofNat o), .int (Int32.ofNat len)]) (rest := []) rfl rfl (by show 2 * 0 + 0 ≤ _; decide) (hb hbytes d36) (⟨rfl, hA.mv X5.warmed.alike hh5, l1, l2, hp⟩)
  obtain ⟨e8, z8⟩ := E8
  obtain ⟨rfl, N, n1, n2, n3, n4, n5, n6⟩ := NewArr.mv _ T5 s _ _ hh5.symm (Vm.Alike.refl _) rfl e8
  rw [hh5] at z8
  have hB1 := hB.keep X8.warmed.alike (n6 _ _ hB.1)
  have hne : s.heap.size ≠ a := (Nat.ne_of_lt (Array.getElem?_eq_some_iff.mp hB.1).1).symm
  have c9 : Steps p.tables e below (s₁.setTop (entryFrame m #[.ref a, .ref b, .int (Int32.ofNat o), .int (Int32.ofNat len), .null] 6)) (T8.setTop (mkF m 39 #[.val (.ref a), .val (.ref b), .val (.int (Int32.ofNat o)), .val (.int (Int32.ofNat len)), .val .null, .unset] [.ref s.heap.size])) := g8
  have c10 : Steps p.tables e below (s₁.setTop (entryFrame m #[.ref a, .ref b, .int (Int32.ofNat o), .int (Int32.ofNat len), .null] 6)) (T8.setTop (mkF m 45 #[.val (.ref a), .val (.ref b), .val (.int (Int32.ofNat o)), .val (.int (Int32.ofNat len)), .val .null, .val (.ref s.heap.size)] [.int (Int32.ofNat N.slots.size), .ref s.heap.size, .ref a])) := by
    have hc : Steps p.tables e below (s₁.setTop (entryFrame m #[.ref a, .ref b, .int (Int32.ofNat o), .int (Int32.ofNat len), .null] 6)) (T8.setTop (mkF m 45 #[.val (.ref a), .val (.ref b), .val (.int (Int32.ofNat o)), .val (.int (Int32.ofNat len)), .val .null, .val (.ref s.heap.size)] [.int (Int32.ofNat len), .ref s.heap.size, .ref a])) := c9.trans (by
      refine XS.astore X8.here hexec rfl (hb hbytes d39) rfl rfl rfl ?_
      refine XS.aloadN X8.here hexec rfl (hb hbytes d41) rfl rfl ?_
      refine XS.aload X8.here hexec rfl (hb hbytes d42) rfl rfl ?_
      refine XS.iloadN X8.here hexec rfl (hb hbytes d44) rfl ?_
      exact Steps.refl _)
    rw [n4]; exact hc
  obtain ⟨v11, T11, X11, E11, g11⟩ := X8.callS hexec (CodL.law l s.heap.size N) hown (wks W (staticW "java/lang/String" 47 CodL.yN)) (wk W CodL.tab) (W := 1) (Nat.le_of_ble_eq_true rfl) (Nat.le_of_ble_eq_true rfl) (Nat.le_refl _) (by show 0 + len + 0 ≤ len; omega) (g := (mkF m 45 #[.val (.ref a), .val (.ref b), .val (.int (Int32.ofNat o)), .val (.int (Int32.ofNat len)), .val .null, .val (.ref s.heap.size)] [.int (Int32.ofNat N.slots.size), .ref s.heap.size, .ref a])) rfl (by rw [hml]; rfl) c10 (argsL := [.ref s.heap.size, .int (Int32.ofNat N.slots.size)]) (rest := [.ref a]) rfl rfl (by show 2 * 0 + (1 + 0) ≤ _; decide) (hb hbytes d45) (⟨rfl, n1⟩)
  obtain ⟨rfl, q11⟩ := E11
  have hB11 := hB1.mv (X8.warmed.alike.symm.trans X11.warmed.alike) q11
  have c12 : Steps p.tables e below (s₁.setTop (entryFrame m #[.ref a, .ref b, .int (Int32.ofNat o), .int (Int32.ofNat len), .null] 6)) (T11.setTop (mkF m 48 #[.val (.ref a), .val (.ref b), .val (.int (Int32.ofNat o)), .val (.int (Int32.ofNat len)), .val .null, .val (.ref s.heap.size)] [.int 0, .ref a])) := g11
  obtain ⟨T13, X13, p13, bl13, sl13, st13⟩ := X11.finit hexec hown (wk W (.fieldLink "java/lang/String" 15 "java/lang/String" "coder" "B")) (Or.inr ⟨_, (wk W (.laysFinal "java/lang/String" "java/lang/String" "coder" "B"))⟩) (Or.inl ⟨rfl, hnm⟩) f2 (Or.inl rfl) hB11 (t := .byte) (by decide +kernel) rfl (g := (mkF m 48 #[.val (.ref a), .val (.ref b), .val (.int (Int32.ofNat o)), .val (.int (Int32.ofNat len)), .val .null, .val (.ref s.heap.size)] [.int 0, .ref a])) rfl (rest := []) rfl (hb hbytes d48)
  have c14 : Steps p.tables e below (s₁.setTop (entryFrame m #[.ref a, .ref b, .int (Int32.ofNat o), .int (Int32.ofNat len), .null] 6)) (T13.setTop (mkF m 54 #[.val (.ref a), .val (.ref b), .val (.int (Int32.ofNat o)), .val (.int (Int32.ofNat len)), .val .null, .val (.ref s.heap.size)] [.ref s.heap.size, .ref a])) := (c12.trans (st13 _ (Steps.refl _))).trans (by
    refine XS.aloadN X13.here hexec rfl (hb hbytes d51) rfl rfl ?_
    refine XS.aload X13.here hexec rfl (hb hbytes d52) rfl rfl ?_
    exact Steps.refl _)
  obtain ⟨T15, X15, p15, bl15, sl15, st15⟩ := X13.finit hexec hown (wk W (.fieldLink "java/lang/String" 9 "java/lang/String" "value" "[B")) (Or.inr ⟨_, (wk W (.laysFinal "java/lang/String" "java/lang/String" "value" "[B"))⟩) (Or.inl ⟨rfl, hnm⟩) f1 (Or.inl rfl) bl13 (t := (.array .byte)) (by decide +kernel) rfl (g := (mkF m 54 #[.val (.ref a), .val (.ref b), .val (.int (Int32.ofNat o)), .val (.int (Int32.ofNat len)), .val .null, .val (.ref s.heap.size)] [.ref s.heap.size, .ref a])) rfl (rest := []) rfl (hb hbytes d54)
  have c16 : Steps p.tables e below (s₁.setTop (entryFrame m #[.ref a, .ref b, .int (Int32.ofNat o), .int (Int32.ofNat len), .null] 6)) (T15.setTop (mkF m 57 #[.val (.ref a), .val (.ref b), .val (.int (Int32.ofNat o)), .val (.int (Int32.ofNat len)), .val .null, .val (.ref s.heap.size)] [])) := c14.trans (st15 _ (Steps.refl _))
  have ap := apart (Or.inr ⟨_, (wk W (.laysFinal "java/lang/String" "java/lang/String" "value" "[B"))⟩) (Or.inr ⟨_, (wk W (.laysFinal "java/lang/String" "java/lang/String" "coder" "B"))⟩) f1 f2 (t₁ := .array .byte) (t₂ := .byte) (by decide +kernel) (by decide +kernel) (by decide)
  have al := X8.warmed.alike.symm.trans X15.warmed.alike
  have n7 : T11.heap[s.heap.size]? = some N := by rw [q11]; exact n1.1
  exact ⟨T15, none, _, _, _, X15, by simp, rfl, by omega, (fun _ => rfl), ⟨rfl, _, N, bl15, ((Same.refl D _).set _ (by simp)).set _ (by simp), sl15, (Cell.slots_setSlot_ne _ ap).trans sl13, n1.keep al (p15.other hne (p13.other hne n7)), n2, by rw [al.findClass]; exact n3, n4, n5, fun y c h1 h2 => p15.other h1 (p13.other h1 (by rw [q11]; exact n6 y c h2)), by rw [p15.2.2, p13.2.2, q11]; exact z8⟩, fun fs hl => c16.trans (X15.returnOut hexec hret (hb hbytes d57) hl)⟩
end New4
namespace New1
def yN : MethodName := ⟨"java/lang/String", "<init>", "([C)V"⟩
abbrev yB : ByteArray := jdk_42_method_3_code
theorem d0 : decode yB 0 = .ok (.aload_n 0, 1) := by decide +kernel
theorem d1 : decode yB 1 = .ok (.aload_n 1, 1) := by decide +kernel
theorem d2 : decode yB 2 = .ok (.iconst 0, 1) := by decide +kernel
theorem d3 : decode yB 3 = .ok (.aload_n 1, 1) := by decide +kernel
theorem d4 : decode yB 4 = .ok (.arraylength, 1) := by decide +kernel
theorem d5 : decode yB 5 = .ok (.aconst_null, 1) := by decide +kernel
theorem d6 : decode yB 6 = .ok (.invokespecial 27, 3) := by decide +kernel
theorem d9 : decode yB 9 = .ok (.return_, 1) := by decide +kernel
def site : List Cond := [New4.tab] ++ initW "java/lang/String" 27 New4.yN
def tab : Cond := tabOf yN yB 2 none site
def P (a : Addr) (D : Cell) (fV fC : Field) (b : Addr) (A : Cell) (z : Int32) (args : Array Value) (s : State) : Prop := args = #[.ref a, .ref b] ∧ Blank "java/lang/String" a D s ∧ Found "java/lang/String" "value" "[B" fV s ∧ Found "java/lang/String" "coder" "B" fC s ∧ Ch b A s ∧ StaticIs s "java/lang/String" "COMPACT_STRINGS" "Z" (.int z) ∧ ¬ z = 0 ∧ 0 < A.slots.size ∧ A.slots.size ≤ 536870912 ∧ ∀ i, i < A.slots.size → ¬ 255 < cv A i
def E (a : Addr) (D : Cell) (fV fC : Field) (A : Cell) (r : Option Value) (s u : State) : Prop := Got a D fV fC A 0 A.slots.size r s u
/-- new String(chars), not empty, no char above 255: a Latin-1 String of their low bytes -/
theorem law (l : Launch) (a : Addr) (D : Cell) (fV fC : Field) (b : Addr) (A : Cell) (z : Int32) : Law l yN 2 1 3 52 yB 2 none site (P a D fV fC b A z) (E a D fV fC A) [⟨a, fC.slot⟩, ⟨a, fV.slot⟩] 1 A.slots.size := by
  refine Law.of_walk (plainFor_of_name (by decide +kernel)) (by decide +kernel) (by decide +kernel) (by decide) (fun _ _ h => by rw [h.1]; rfl) (fun _ U U' hal hh h => ⟨h.1, h.2.1.mv hal hh, h.2.2.1.al hal, h.2.2.2.1.al hal, h.2.2.2.2.1.mv hal hh, h.2.2.2.2.2.1.there hal hh, h.2.2.2.2.2.2⟩) (fun r U U' V V' h1 hal h2 h => Got.mv r U U' V V' h1 hal h2 h) ?_
  intro p e s m args below meth c s₁ X0 hexec hbytes hml hret hlk hnm hown hh0 W hP
  obtain ⟨rfl, hB, f1, f2, hA, s1, hz, l0, l2, hp⟩ := hP
  have c1 : Steps p.tables e below (s₁.setTop (entryFrame m #[.ref a, .ref b] 2)) (s₁.setTop (mkF m 0 #[.val (.ref a), .val (.ref b)] [])) := entry rfl
  have c2 : Steps p.tables e below (s₁.setTop (entryFrame m #[.ref a, .ref b] 2)) (s₁.setTop (mkF m 6 #[.val (.ref a), .val (.ref b)] [.null, .int (Int32.ofNat A.slots.size), .int 0, .ref b, .ref a])) := c1.trans (by
    refine XS.aloadN X0.here hexec rfl (hb hbytes d0) rfl rfl ?_
    refine XS.aloadN X0.here hexec rfl (hb hbytes d1) rfl rfl ?_
    refine iconstV X0.here hexec rfl 0 (hb hbytes d2) (by decide) ?_
    refine XS.aloadN X0.here hexec rfl (hb hbytes d3) rfl rfl ?_
    refine X0.alen hexec (hA.1.mv X0.warmed.alike hh0) rfl rfl (hb hbytes d4) ?_
    refine XS.aconstNull X0.here hexec rfl (hb hbytes d5) ?_
    exact Steps.refl _)
  obtain ⟨v3, T3, X3, E3, g3⟩ := X0.callN hexec (New4.law l a D fV fC b A z 0 A.slots.size) rfl hown (wks W (initW "java/lang/String" 27 New4.yN)) (W New4.tab (by simp only [site, List.mem_cons, List.mem_append, true_or, or_true])) (W := 0) (Nat.le_of_ble_eq_true rfl) (Nat.le_of_ble_eq_true rfl) (Nat.le_refl _) (by show 0 + A.slots.size ≤ A.slots.size; omega) (g := (mkF m 6 #[.val (.ref a), .val (.ref b)] [.null, .int (Int32.ofNat A.slots.size), .int (Int32.ofNat 0), .ref b, .ref a])) rfl (by rw [hml]; rfl) c2 (argsL := [.ref b, .int (Int32.ofNat 0), .int (Int32.ofNat A.slots.size), .null]) (rest := []) rfl rfl (by show 2 * 0 + 0 ≤ _; decide) (hb hbytes d6) (⟨rfl, hB.mv X0.warmed.alike hh0, f1.al X0.warmed.alike, f2.al X0.warmed.alike, hA.mv X0.warmed.alike hh0, s1.there X0.warmed.alike hh0, hz, l0, by omega, l2, fun i hi => by rw [Nat.zero_add]; exact hp i hi⟩)
  have e0 := Got.mv _ s₁ s _ _ hh0.symm (Vm.Alike.refl _) rfl E3
  obtain rfl := e0.1
  have c4 : Steps p.tables e below (s₁.setTop (entryFrame m #[.ref a, .ref b] 2)) (T3.setTop (mkF m 9 #[.val (.ref a), .val (.ref b)] [])) := g3
  exact ⟨T3, none, _, _, _, X3, by simp, rfl, by omega, (fun _ => rfl), e0, fun fs hl => c4.trans (X3.returnOut hexec hret (hb hbytes d9) hl)⟩
theorem pays {l : Launch} {R : Room} {p : Program} {e : Env} {below : List Frame} {s : State} {sargs : Array Value} {len W : Nat} (a : Addr) (D : Cell) (fV fC : Field) (b : Addr) (A : Cell) (z : Int32) (htab : tab.before sargs s = true) (hfr : 4 ≤ R.frames) (hlo : W + 65 ≤ R.locals) :
    Back l R p e below s sargs yN len W (fun A₁ a₁ => A₁.cells + 1 ≤ R.cells ∧ A₁.slots + A.slots.size ≤ R.slots ∧ P a D fV fC b A z a₁ A₁.U) (fun A₁ _ v₁ B₁ => E a D fV fC A v₁ A₁.U B₁.U ∧ B₁.locs = A₁.locs ++ [⟨a, fC.slot⟩, ⟨a, fV.slot⟩] ∧ B₁.cells = A₁.cells + 1 ∧ B₁.slots = A₁.slots + A.slots.size) :=
  (law l a D fV fC b A z).pays htab hfr (by omega)
end New1
end StrChars
namespace StrChars.Road
open Jvm Sem ClassFile Op Lib Jvm.Stand Jvm.Free Jvm.Free.XT
open Jvm.Lib.Cold (StaticIs)
abbrev ST : String := "java/lang/String"
/-- every table word that New1's law asks, flat -/
abbrev words : List Jvm.Cond := [.code New1.yN New1.yB 2 none, .initialized ST, .methodLink ST 27 New4.yN, .instanceMethod New4.yN,
  .code New4.yN New4.yB 6 none, .fieldLink ST 38 ST "COMPACT_STRINGS" "Z", .laysFinal ST ST "value" "[B", .fieldLink ST 9 ST "value" "[B", .laysFinal ST ST "coder" "B", .fieldLink ST 15 ST "coder" "B",
  .methodLink ST 1 Lib.objectInit, .instanceMethod Lib.objectInit, .code Lib.objectInit ⟨#[0xb1]⟩ 1 none, .methodLink ST 177 Cmp3.yN, .static Cmp3.yN, .methodLink ST 47 CodL.yN, .static CodL.yN,
  .code Cmp3.yN Cmp3.yB 6 (some (.array .byte)), .initialized U16, .arrayClass .byte, .methodLink U16 115 Cmp5.yN, .static Cmp5.yN, .code Cmp5.yN Cmp5.yB 7 (some .int), .code CodL.yN CodL.yB 2 (some .byte)]
theorem tab_of {a : Array Value} {s : State} (h : ∀ w ∈ words, w.before a s = true) : New1.tab.before a s = true := by
  have h5 : Cmp5.tab.before a s = true := unparts (wk h (.code Cmp5.yN Cmp5.yB 7 (some .int))) (wks h (.initialized Cmp5.yN.cls :: Cmp5.site))
  have hc : CodL.tab.before a s = true := unparts (wk h (.code CodL.yN CodL.yB 2 (some .byte))) (wks h (.initialized CodL.yN.cls :: CodL.site))
  have q5 : ∀ w ∈ Cmp5.tab :: words, w.before a s = true := fun w hw => (List.mem_cons.mp hw).elim (fun e => e ▸ h5) (h w)
  have h3 : Cmp3.tab.before a s = true := unparts (wk q5 (.code Cmp3.yN Cmp3.yB 6 (some (.array .byte)))) (wks q5 (.initialized Cmp3.yN.cls :: Cmp3.site))
  have q3 : ∀ w ∈ Cmp3.tab :: CodL.tab :: words, w.before a s = true := fun w hw => (List.mem_cons.mp hw).elim (fun e => e ▸ h3) fun hw => (List.mem_cons.mp hw).elim (fun e => e ▸ hc) (h w)
  have h4 : New4.tab.before a s = true := unparts (wk q3 (.code New4.yN New4.yB 6 none)) (wks q3 (.initialized New4.yN.cls :: New4.site))
  have q4 : ∀ w ∈ New4.tab :: words, w.before a s = true := fun w hw => (List.mem_cons.mp hw).elim (fun e => e ▸ h4) (h w)
  exact unparts (wk q4 (.code New1.yN New1.yB 2 none)) (wks q4 (.initialized New1.yN.cls :: New1.site))
/-- the words ride from the start Z to the walk's own state -/
theorem moved {Z s : State} {a0 args : Array Value} (hZ : Z.Warmed39 s.vm) (hw : ∀ d ∈ words, d.before a0 Z = true) : ∀ d ∈ words, d.before args s = true := fun d hd => by
  have q := hw d hd
  have t : ∀ d ∈ words, d = .arrayClass .byte ∨ (d.onTables && d.keepsFace) = true := by decide +kernel
  rcases t d hd with rfl | t
  · exact RoadKit.mvA hZ q
  · exact RoadKit.mv hZ q t
/-- WHAT COMES BACK, over the tables of the start Z: h the heap at the call, h' behind it -/
def Q (Z : State) (x : Addr) (A : Cell) (h : Heap) (v : Option Value) (h' : Heap) (L : List Loc) : Prop := v = none ∧ (∀ y ∈ L, y.base = x) ∧ RoadKit.Keep h h' [x] ∧ h'.size = h.size + 1 ∧ RoadKit.Exa Z h' x ST ∧ RoadKit.Fld Z h' x ST "value" "[B" (.ref h.size) ∧ RoadKit.Fld Z h' x ST "coder" "B" (.int 0) ∧
  (∃ V : Cell, RoadKit.Arr Z h' h.size V .byte ∧ V.vm = .none ∧ Z.vm.findClass "[B" = some V.cls ∧ V.slots.size = A.slots.size ∧ ∀ j, j < A.slots.size → V.slots[j]? = some (.int (lo8 (cv A j)))) ∧
  ∀ (O n d : String) (w : Value), RoadKit.Fld Z h x O n d w → RoadKit.slotOf Z O n d ≠ RoadKit.slotOf Z ST "value" "[B" → RoadKit.slotOf Z O n d ≠ RoadKit.slotOf Z ST "coder" "B" → RoadKit.Fld Z h' x O n d w
/-- **new String(chars) AT A CALL, IN THE ROAD'S FORM**: for specialBack behind newO: x the fresh String, b the char[] with the cell A -/
theorem back {p : Program} {l : Launch} {e : Env} {R : Room} {s : State} {args : Array Value} {below : List Frame} {len W : Nat} {Z : State} {a0 : Array Value} {h : Heap} (hZ : Z.Warmed39 s.vm) (hw : ∀ d ∈ words, d.before a0 Z = true) {kI : Nat} (wi : (Jvm.Cond.instantiable ST kI).before a0 Z = true)
    {x b : Addr} {A : Cell} {z : Int32} {v0 c0 : Value} (E : RoadKit.Exa Z h x ST) (V : RoadKit.Fld Z h x ST "value" "[B" v0) (C : RoadKit.Fld Z h x ST "coder" "B" c0) (K : RoadKit.Arr Z h b A .char) (hty : Typed .char A) (S : RoadKit.Sta Z h ST "COMPACT_STRINGS" "Z" (.int z)) (hz : ¬ z = 0)
    (l0 : 0 < A.slots.size) (l2 : A.slots.size ≤ 536870912) (hp : ∀ i, i < A.slots.size → ¬ 255 < cv A i) (hfr : 4 ≤ R.frames) (hlo : W + 65 ≤ R.locals) :
    Back l R p e below s args New1.yN len W (fun P a => a = #[.ref x, .ref b] ∧ P.U.heap = h ∧ P.cells + 1 ≤ R.cells ∧ P.slots + A.slots.size ≤ R.slots)
      (fun P _ v B => ∃ L, Q Z x A h v B.U.heap L ∧ B.locs = P.locs ++ L ∧ B.cells = P.cells + 1 ∧ B.slots = P.slots + A.slots.size) := by
  intro m meth c P g ig mk a X hg hsize hdg hW hn hp'
  obtain ⟨rfl, rfl, r1, r2⟩ := hp'
  have al : Z.vm.Alike P.U.vm := hZ.alike.trans X.warmed.alike
  obtain ⟨D, cfV, kV, iV, fV, hD, gV, stV, knV, obV, asV, slV⟩ := id V
  obtain ⟨D', cfC, kC, iC, fC, hD', gC, stC, -, -, asC, slC⟩ := id C
  cases hD.symm.trans hD'
  obtain ⟨D2, kD, e1, e2, e3, e4, e5⟩ := id E
  cases hD.symm.trans e1
  obtain ⟨c2, k2, i1, i2, i3, -⟩ := Cond.instantiable_spec wi
  cases e2.symm.trans i1
  cases e3.symm.trans i2
  obtain ⟨kU, u1, u2⟩ := al.2.2 _ _ e3
  have hB : Blank ST x D P.U := ⟨hD, ⟨knV, fun q hq => by rw [hq] at obV; cases obV⟩, by rw [al.findClass]; exact e2, kU, u1, by rw [u2]; exact i3, by rw [u2]; exact e5 i3⟩
  have F1 : Found ST "value" "[B" fV P.U := ⟨SBG.found_only al ⟨cfV, kV, iV, gV⟩, stV⟩
  have F2 : Found ST "coder" "B" fC P.U := ⟨SBG.found_only al ⟨cfC, kC, iC, gC⟩, stC⟩
  have hA : Ch b A P.U := ⟨⟨K.1, State.isArrayOf_alike al K.2.1, K.2.2, by omega⟩, hty⟩
  have hS : StaticIs P.U ST "COMPACT_STRINGS" "Z" (.int z) := by
    obtain ⟨cfS, iS, kS, fS, st, cS, t1, t2, t3, t4, t5, t6, t7⟩ := S
    exact StaticIs.there (s := { Z with heap := P.U.heap }) ⟨cfS, iS, kS, fS, st, cS, t1, t2, t3, t4, t5, (fun q => by rw [q] at t6; cases t6), t7⟩ al rfl
  obtain ⟨v, B, X', ⟨⟨hv, E', V', q1, q2, q3, q4, q5, q6, q7, q8, q9, q10, q11⟩, hl, hc, hs⟩, st⟩ := New1.pays x D fV fC b A z (tab_of (moved hZ hw)) hfr hlo m meth c P g ig mk _ X hg hsize hdg hW hn ⟨r1, r2, rfl, hB, F1, F2, hA, hS, hz, l0, l2, hp⟩
  have al' : Z.vm.Alike B.U.vm := hZ.alike.trans X'.warmed.alike
  have hsz : E'.slots.size = D.slots.size := by
    obtain ⟨-, -, -, kB, w1, w2, w3⟩ := q1
    obtain ⟨kB', y1, y2⟩ := al'.2.2 _ _ e3
    rw [q2.2.1] at w1
    cases w1.symm.trans y1
    rw [w3, e5 i3, y2]
  refine ⟨v, B, X', ⟨_, ⟨hv, ?_, ⟨by omega, fun y cy hy hn' => q10 y cy (by simpa using hn') hy, fun y cy hy => ?_⟩, q11, ⟨E', _, q1.1, by rw [q2.2.1]; exact e2, by rw [q2.2.1]; exact e3, by rw [q2.1]; exact obV, fun _ => by rw [hsz]; exact e5 i3⟩,
    ⟨E', cfV, kV, iV, fV, q1.1, gV, stV, by rw [q2.1]; exact knV, by rw [q2.1]; exact obV, by rw [q2.2.1]; exact asV, q3⟩, ⟨E', cfC, kC, iC, fC, q1.1, gC, stC, by rw [q2.1]; exact knV, by rw [q2.1]; exact obV, by rw [q2.2.1]; exact asC, q4⟩,
    ⟨V', ⟨q5.1, State.isArrayOf_alike al'.symm q5.2.1, q5.2.2.1⟩, q6, by rw [← al'.findClass]; exact q7, q8, fun j hj => by have := q9 j hj; rwa [Nat.zero_add] at this⟩, fun O n d w F n1 n2 => ?_⟩, hl, hc, hs⟩, st⟩
  · intro y hy
    simp only [List.mem_cons, List.not_mem_nil, or_false] at hy
    rcases hy with rfl | rfl <;> rfl
  · by_cases q : y = x
    · subst q
      cases hD.symm.trans hy
      exact ⟨E', q1.1, q2.2.1, q2.1, hsz⟩
    · exact ⟨cy, q10 y cy q hy, rfl, rfl, rfl⟩
  · obtain ⟨D3, cf, k, i, f, g1, g2, g3, g4, g5, g6, g7⟩ := F
    cases hD.symm.trans g1
    simp only [RoadKit.slotOf, g2, gV, gC, Option.map_some, Option.getD_some] at n1 n2
    exact ⟨E', cf, k, i, f, q1.1, g2, g3, by rw [q2.1]; exact g4, by rw [q2.1]; exact g5, by rw [q2.2.1]; exact g6, by rw [q2.2.2 f.slot (by simp [n1, n2])]; exact g7⟩
end StrChars.Road
namespace StrChars.Road
open Jvm Sem ClassFile Op Lib Jvm.Stand Jvm.Free Jvm.Free.XT
/-- WHAT COMES BACK, the byte[] as a list of values -/
def QA (Z : State) (x : Addr) (zn : Int32) (cs : List Int32) (h : Heap) (v : Option Value) (h' : Heap) (L : List Loc) : Prop := v = none ∧ (∀ y ∈ L, y.base = x) ∧ RoadKit.Keep h h' [x] ∧ h'.size = h.size + 1 ∧ RoadKit.Exa Z h' x ST ∧ RoadKit.Fld Z h' x ST "value" "[B" (.ref h.size) ∧ RoadKit.Fld Z h' x ST "coder" "B" (.int 0) ∧
  (∃ kb, Z.vm.findClass "[B" = some kb ∧ RoadKit.Arv Z h' h.size kb .byte zn (cs.map fun c => .int (lo8 c)) (.int 0)) ∧
  ∀ (O n d : String) (w : Value), RoadKit.Fld Z h x O n d w → RoadKit.slotOf Z O n d ≠ RoadKit.slotOf Z ST "value" "[B" → RoadKit.slotOf Z O n d ≠ RoadKit.slotOf Z ST "coder" "B" → RoadKit.Fld Z h' x O n d w
/-- **new String(chars) AT A CALL, THE ARRAYS AS LISTS**: the char[] at b holds cs, not empty, no char above 255 -/
theorem backArv {p : Program} {l : Launch} {e : Env} {R : Room} {s : State} {args : Array Value} {below : List Frame} {len W : Nat} {Z : State} {a0 : Array Value} {h : Heap} (hZ : Z.Warmed39 s.vm) (hw : ∀ d ∈ words, d.before a0 Z = true) {kI : Nat} (wi : (Jvm.Cond.instantiable ST kI).before a0 Z = true)
    {x b : Addr} {k : ClassId} {zn z : Int32} {cs : List Int32} {dv v0 c0 : Value} (E : RoadKit.Exa Z h x ST) (V : RoadKit.Fld Z h x ST "value" "[B" v0) (C : RoadKit.Fld Z h x ST "coder" "B" c0) (K : RoadKit.Arv Z h b k .char zn (cs.map Value.int) dv) (S : RoadKit.Sta Z h ST "COMPACT_STRINGS" "Z" (.int z)) (hz : ¬ z = 0)
    (hlen : zn.toNatClampNeg = cs.length) (h0 : 0 < cs.length) (hbig : cs.length ≤ 536870912) (hall : ∀ c ∈ cs, ¬ 255 < c) (hfr : 4 ≤ R.frames) (hlo : W + 65 ≤ R.locals) :
    Back l R p e below s args New1.yN len W (fun P a => a = #[.ref x, .ref b] ∧ P.U.heap = h ∧ P.cells + 1 ≤ R.cells ∧ P.slots + cs.length ≤ R.slots)
      (fun P _ v B => ∃ L, QA Z x zn cs h v B.U.heap L ∧ B.locs = P.locs ++ L ∧ B.cells = P.cells + 1 ∧ B.slots = P.slots + cs.length) := by
  obtain ⟨A, K1, K2, K3, K4, K5, K6⟩ := K
  have e : A.slots.size = cs.length := K3.trans hlen
  have hat : ∀ (i : Nat) (hi : i < cs.length), A.slots[i]? = some (.int cs[i]) := fun i hi => by rw [K5 i (by omega)]; simp [List.getD_eq_getElem?_getD, hi]
  have hcv : ∀ (i : Nat) (hi : i < cs.length), cv A i = cs[i] := fun i hi => by unfold cv; rw [hat i hi]
  have hty : Typed .char A := fun i v hv => by
    have hi : i < A.slots.size := (Array.getElem?_eq_some_iff.mp hv).1
    have q := K5 i hi
    rw [hv] at q
    rw [Option.some.inj q]
    exact K6 i hi
  refine Back.mono (back hZ hw wi E V C K1 hty S hz (by omega) (by omega) (fun i hi => by rw [hcv i (by omega)]; exact hall _ (List.getElem_mem _)) hfr hlo) (fun P a hp => ⟨hp.1, hp.2.1, hp.2.2.1, by rw [e]; exact hp.2.2.2⟩) (fun P a v B hp hq => ?_)
  obtain ⟨L, ⟨q1, q2, q3, q4, q5, q6, q7, ⟨V', v1, v2, v3, v4, v5⟩, q9⟩, hl, hc, hs⟩ := hq
  refine ⟨L, ⟨q1, q2, q3, q4, q5, q6, q7, ⟨V'.cls, v3, V', v1, rfl, by rw [v4, e, hlen], K4, fun i hi => ?_, fun i hi => ?_⟩, q9⟩, hl, hc, by rw [hs, e]⟩
  · have hi' : i < cs.length := by omega
    rw [v5 i (by omega), hcv i hi']; simp [List.getD_eq_getElem?_getD, hi']
  · have hi' : i < cs.length := by omega
    simp only [List.getD_eq_getElem?_getD, List.getElem?_map, List.getElem?_eq_getElem hi', Option.map_some, Option.getD_some]
    exact fits_lo8 _
end StrChars.Road
namespace StrChars.Road
open Jvm Sem ClassFile Op Lib Jvm.Stand Jvm.Free Jvm.Free.XT
/-- WHAT COMES BACK, in the writer's own shape -/
def QV (Z : State) (x : Addr) (N : Int32) (bs : List Int32) (h : Heap) (n0 : Nat) (v : Option Value) (h' : Heap) (L : List Loc) : Prop := v = none ∧ RoadKit.Fr n0 L ∧ RoadKit.Keep h h' [x] ∧ RoadKit.Exa Z h' x ST ∧ RoadKit.Fld Z h' x ST "coder" "B" (.int 0) ∧
  ∃ (t : Addr) (kb : ClassId), n0 ≤ t ∧ h.size ≤ t ∧ ¬ t = x ∧ RoadKit.Fld Z h' x ST "value" "[B" (.ref t) ∧ RoadKit.Arv Z h' t kb .byte N (bs.map Value.int) (.int 0)
/-- **new String(chars) AT A CALL, FOR THE WRITER**: a char[] of n known ints, each 0 to 255 -/
theorem backV {p : Program} {l : Launch} {e : Env} {R : Room} {s : State} {args : Array Value} {below : List Frame} {len W : Nat} {Z : State} {a0 : Array Value} {h : Heap} (hZ : Z.Warmed39 s.vm) (hw : ∀ d ∈ words, d.before a0 Z = true) {kI : Nat} (wi : (Jvm.Cond.instantiable ST kI).before a0 Z = true)
    {x b : Addr} {kC : ClassId} {cs bs : List Int32} {d v0 c0 : Value} {z N : Int32} {n n0 : Nat} (hx0 : n0 ≤ x) (hh0 : n0 ≤ h.size) (E : RoadKit.Exa Z h x ST) (V : RoadKit.Fld Z h x ST "value" "[B" v0) (C : RoadKit.Fld Z h x ST "coder" "B" c0) (K : RoadKit.Arv Z h b kC .char N (cs.map Value.int) d) (S : RoadKit.Sta Z h ST "COMPACT_STRINGS" "Z" (.int z)) (hz : ¬ z = 0)
    (hn : cs.length = n) (hN : N = Int32.ofNat n) (l0 : 0 < n) (l2 : n ≤ 4000) (hp : ∀ c ∈ cs, ¬ c < 0 ∧ ¬ (255 : Int32) < c) (hb : bs = cs.map (fun c => c.toInt8.toInt32)) (hfr : 4 ≤ R.frames) (hlo : W + 65 ≤ R.locals) :
    Back l R p e below s args (⟨"java/lang/String", "<init>", "([C)V"⟩ : MethodName) len W (fun P a => a = #[.ref x, .ref b] ∧ P.U.heap = h ∧ P.cells + 1 ≤ R.cells ∧ P.slots + n ≤ R.slots)
      (fun P _ v B => ∃ L, QV Z x N bs h n0 v B.U.heap L ∧ B.locs = P.locs ++ L ∧ B.cells = P.cells + 1 ∧ B.slots = P.slots + n) := by
  subst hn hN hb
  refine Back.mono (backArv hZ hw wi E V C K S hz (n32 (by omega)) l0 (by omega) (fun c hc => (hp c hc).2) hfr hlo) (fun P a hp => hp) (fun P a v B hp hq => ?_)
  obtain ⟨L, ⟨q1, q2, q3, q4, q5, q6, q7, ⟨kb, v1, v2⟩, q9⟩, hl, hc, hs⟩ := hq
  exact ⟨L, ⟨q1, fun y hy => by rw [q2 y hy]; exact hx0, q3, q5, q7, h.size, kb, hh0, Nat.le_refl _, Nat.ne_of_gt E.lt, q6, by rw [List.map_map]; exact v2⟩, hl, hc, hs⟩
end StrChars.Road
end Jvm.Pilot.@@N@@

namespace Jvm.Pilot.@@N@@
open Jvm Jvm.ClassFile Sem Op Lib Jvm.Free Jvm.Stand Jvm.LawKit Jvm.RoadKit Bundle Jvm.Pilot.@@N@@.Jvm.D
theorem own_hws {Z : State} {a0 : Array Value} (hw : ∀ d ∈ tables_1, d.before a0 Z = true) : ∀ d ∈ StrChars.Road.words, d.before a0 Z = true := fun d hd => hw d ((by decide +kernel : ∀ d ∈ StrChars.Road.words, d ∈ tables_1) d hd)
def own_eqs (cs ds : List Int32) : Int32 := if cs = ds then 1 else 0
theorem own_up {cs : List Int32} (h : ∀ c ∈ cs, ¬ c < 0 ∧ ¬ (255 : Int32) < c) : ∀ c ∈ cs, ¬ c < 0 ∧ ¬ (65535 : Int32) < c := fun c hc => ⟨(h c hc).1, fun q => (h c hc).2 (by rw [Int32.lt_iff_toInt_lt] at q ⊢; have e1 : (65535 : Int32).toInt = 65535 := rfl; have e2 : (255 : Int32).toInt = 255 := rfl; omega)⟩
abbrev EL1 : List (String × Nat) := [("java/lang/String", 7), ("com/example/holdtube/holdtube/Seal", 55)]
theorem own_EW {Z : State} {a0 : Array Value} (hw : ∀ d ∈ tables_1, d.before a0 Z = true) : EW Z a0 EL1 := (EW.cons (hw _ (List.mem_of_getElem? (i := 14) rfl)) (by decide +kernel) (EW.cons (hw _ (List.mem_of_getElem? (i := 92) rfl)) (by decide +kernel) EW.nil))
theorem own_ELin : ∀ p ∈ EL1, p ∈ consts_1 := by decide +kernel
theorem own_wSin : ∀ a ∈ Bundle.stringAtoms, a ∈ tables_1 := by decide +kernel
theorem own_wS {Z : State} {a0 : Array Value} (hw : ∀ d ∈ tables_1, d.before a0 Z = true) : ∀ a ∈ Bundle.stringAtoms, a.before a0 Z = true := fun a h => hw a (own_wSin a h)
theorem own_backS {p : Program} {l : Launch} {e : Env} {R : Room} {s : State} {args : Array Value} {below : List Frame} {Z : State} {a0 : Array Value} {EL : List (String × Nat)} {h : Heap} {vm0 : Vm} {sf : List Addr} {y : MethodName} {bytes : ByteArray} {maxL : Nat} {ret : Option FieldType} {rm : Room} {len W : Nat} {as' : Array Value} {Q : Option Value → Heap → List Loc → Prop}
    (hM : MetFree l y (head1 [Cond.code y bytes maxL ret] rm) (fun a U => a = as' ∧ Z.Warmed39 U.vm ∧ U.heap = h ∧ CHv Z EL U.vm h ∧ ∀ x ∈ sf, Safe Z EL U.vm h x) (fun _ _ _ _ _ => True) (fun _ U o U' => ∃ v L, o = .returned v ∧ Q v U'.heap L ∧ CHr Z EL U.vm U.heap U'.vm U'.heap ∧ ReturnedEndW U o U' L rm.cells rm.slots))
    (hZ : Z.Warmed39 vm0) (wc : (Cond.code y bytes maxL ret).before a0 Z = true) (wz : (Cond.initialized y.cls).before a0 Z = true) (hf : rm.frames + 1 ≤ R.frames) (hl : W + (maxL + 11) + rm.locals ≤ R.locals) (hEL : EW Z a0 EL) (H : CHv Z EL vm0 h) (hsf : ∀ x ∈ sf, Safe Z EL vm0 h x) (hlt : ∀ x ∈ sf, x < h.size) :
    BackS l R p e below (s.setVm vm0) args y len W (fun A a => a = as' ∧ A.U.heap = h ∧ A.cells + rm.cells ≤ R.cells ∧ A.slots + rm.slots ≤ R.slots)
      (fun A _ v B => ∃ L, Q v B.U.heap L ∧ B.locs = A.locs ++ L ∧ B.cells = A.cells + rm.cells ∧ B.slots = A.slots + rm.slots ∧ CHr Z EL vm0 h B.U.vm B.U.heap) := by
  have key : ∀ {m : MethodId} {meth : Method} {c : Code} {A : Pt}, Stand p l e R (s.setVm vm0) m args below meth c A.U A.locs A.cells A.slots → CHr Z EL vm0 h A.U.vm h := fun Y => CHv.at Y hZ hEL H
  refine BackS.of_freeW (bytes := bytes) (maxL := maxL) (ret := ret) (E := fun _ first o t L k n => k = rm.cells ∧ n = rm.slots ∧ (∃ v, o = .returned v ∧ Q v t.heap L) ∧ CHr Z EL first.vm first.heap t.vm t.heap) hM hf hl ?_ ?_ (fun _ _ _ _ _ _ _ _ _ => trivial) ?_ ?_
  · intro m meth c A a Y hp
    have hU : Z.Warmed39 A.U.vm := wtrans (s := s.setVm vm0) hZ Y.warmed
    exact ⟨by show (Cond.and _ .tt).before a A.U = true; rw [Cond.before_and, mv hU wc]; rfl, mv hU wc, mv hU wz, hp.2.2.1, hp.2.2.2⟩
  · intro m meth c A a g mk Y hp
    exact ⟨hp.1, wtrans (s := s.setVm vm0) hZ Y.warmed, hp.2.1, (key Y).1, fun x hx => (key Y).safe (hlt x hx) (hsf x hx)⟩
  · rintro _ _ _ _ ⟨v, L, h1, h2, h3, h4⟩
    exact ⟨L, _, _, h4, rfl, rfl, ⟨v, h1, h2⟩, h3⟩
  · rintro m meth c A a g mk v t L k n Y hp _ _ ⟨e1, e2, ⟨v', e3, e4⟩, e5⟩
    cases e3; subst e1 e2
    refine ⟨L, e4, rfl, rfl, rfl, (key Y).trans ?_⟩
    rw [← hp.2.1]; exact e5
theorem own_nf {s : State} {args : Array Value} {C : String} {y z : MethodName} (hsel : (Jvm.Cond.selects C z z).before args s = true) (e : y.cls = z.cls) : NotFace s y := fun r0 h0 => by
  obtain ⟨c2, r2, m2, q1, q2, q3, q4, kP, hkP, hkPi⟩ := Cond.selects_spec hsel
  have h1 := findClass_of_methodNamed h0
  have h2 := findClass_of_methodNamed q3
  rw [e] at h1
  have e2 : r0.cls = m2.cls := Option.some.inj (h1.symm.trans h2)
  exact ⟨kP, by rw [e2]; exact hkP, hkPi⟩
theorem own_sameM {Z : State} {a0 : Array Value} {C : String} {y z : MethodName} (w3 : (Jvm.Cond.instanceMethod y).before a0 Z = true) (w4 : (Jvm.Cond.selects C z z).before a0 Z = true) (e : y.cls = z.cls) (hy : y.cls ≠ "java/lang/invoke/MethodHandle" ∧ y.cls ≠ "java/lang/invoke/VarHandle") : (Jvm.Cond.sameMethod y.cls y.cls y.name y.desc).before a0 Z = true := by
  obtain ⟨mk, methM, hnamed, hmethM, -, -⟩ := Cond.instanceMethod_spec w3
  have hf := State.methodFound?_of_named hnamed hy
  have hc := findClass_of_methodNamed hnamed
  obtain ⟨k, hk, hi⟩ := own_nf w4 e mk hnamed
  have hnamed' : Z.methodNamed? ⟨y.cls, y.name, y.desc⟩ = some mk := hnamed
  simp [Cond.before, Cond.holds, Cond.value, hc, hf, hnamed', hk, hi]
theorem own_selfsel {Z : State} {a0 : Array Value} {C : String} {y : MethodName} (w : (Jvm.Cond.selects C y y).before a0 Z = true) (wp : (Jvm.Cond.privateMethod y).before a0 Z = true) (wi : (Jvm.Cond.instanceMethod y).before a0 Z = true) (hy : y.cls ≠ "java/lang/invoke/MethodHandle" ∧ y.cls ≠ "java/lang/invoke/VarHandle") : (Jvm.Cond.selects y.cls y y).before a0 Z = true := by
  obtain ⟨c2, r2, m2, -, -, q3, -, kP, hkP, hkPi⟩ := Cond.selects_spec w
  exact Jvm.Stand.selects_self_of_private (findClass_of_methodNamed q3) hkP hkPi (Cond.privateMethod_at wp) wi hy
def OwnC (Z : State) (q0 q1 q2 : Addr) : Prop := Sta Z Z.heap "java/nio/charset/StandardCharsets" "US_ASCII" "Ljava/nio/charset/Charset;" (.ref q0) ∧ Sta Z Z.heap "sun/nio/cs/US_ASCII" "INSTANCE" "Lsun/nio/cs/US_ASCII;" (.ref q0) ∧ Sta Z Z.heap "sun/nio/cs/UTF_8" "INSTANCE" "Lsun/nio/cs/UTF_8;" (.ref q1) ∧ Sta Z Z.heap "sun/nio/cs/ISO_8859_1" "INSTANCE" "Lsun/nio/cs/ISO_8859_1;" (.ref q2) ∧ q0 ≠ q1 ∧ q0 ≠ q2
theorem own_all0 : ∀ c ∈ ([] : List Int32), ¬ c < 0 ∧ ¬ (255 : Int32) < c := fun c hc => absurd hc (List.not_mem_nil)
theorem own_allS {a : Int32} {cs : List Int32} (h : ¬ a < 0 ∧ ¬ (255 : Int32) < a) (t : ∀ c ∈ cs, ¬ c < 0 ∧ ¬ (255 : Int32) < c) : ∀ c ∈ a :: cs, ¬ c < 0 ∧ ¬ (255 : Int32) < c := fun c hc => by
  rcases List.mem_cons.mp hc with rfl | q
  · exact h
  · exact t c q
theorem own_four {p n : Int32} (h : n = (p &&& (3 : Int32))) : n = (0 : Int32) ∨ n = (1 : Int32) ∨ n = (2 : Int32) ∨ n = (3 : Int32) := by
  have d1 := c_mask p 3 2 (by decide) (by decide)
  rw [← h] at d1
  obtain ⟨k, hk⟩ : ∃ k : Nat, n.toInt = k := ⟨n.toInt.toNat, by omega⟩
  have : k = 0 ∨ k = 1 ∨ k = 2 ∨ k = 3 := by omega
  rcases this with rfl | rfl | rfl | rfl
  · exact Or.inl (Int32.toInt_inj.mp hk)
  · exact Or.inr (Or.inl (Int32.toInt_inj.mp hk))
  · exact Or.inr (Or.inr (Or.inl (Int32.toInt_inj.mp hk)))
  · exact Or.inr (Or.inr (Or.inr (Int32.toInt_inj.mp hk)))
theorem own_seven {p c : Int32} (h : c = ((p &&& (127 : Int32)).toUInt32.toUInt16.toUInt32.toInt32)) : (¬ c < 0 ∧ ¬ (255 : Int32) < c) ∧ nar .char c = c ∧ ¬ (c.toInt8.toInt32) < 0 := by
  have d1 := c_mask p 127 7 (by decide) (by decide)
  obtain ⟨n, hn⟩ : ∃ n : Nat, (p &&& (127 : Int32)).toInt = n := ⟨(p &&& (127 : Int32)).toInt.toNat, by omega⟩
  have hx : (p &&& (127 : Int32)) = Int32.ofNat n := Int32.toInt_inj.mp (by rw [hn]; exact (Int32.toInt_ofNat_of_lt (by omega)).symm)
  have hlt : n < 128 := by omega
  rw [hx] at h
  subst h
  have key : ∀ k : Fin 128, (¬ ((Int32.ofNat k.val).toUInt32.toUInt16.toUInt32.toInt32) < 0 ∧ ¬ (255 : Int32) < ((Int32.ofNat k.val).toUInt32.toUInt16.toUInt32.toInt32)) ∧ nar .char ((Int32.ofNat k.val).toUInt32.toUInt16.toUInt32.toInt32) = ((Int32.ofNat k.val).toUInt32.toUInt16.toUInt32.toInt32) ∧ ¬ (((Int32.ofNat k.val).toUInt32.toUInt16.toUInt32.toInt32).toInt8.toInt32) < 0 := by decide +kernel
  exact key ⟨n, hlt⟩
theorem own_eqa {t u : Term} {a b : Addr} {s : State} {a0 : Array Value} (h : (Jvm.Cond.eq t u).value a0 s none s [] = some true) (ht : t.eval a0 s none [] s = some (.ref a)) (hu : u.eval a0 s none [] s = some (.ref b)) : a = b :=
  Value.ref.inj (gotT (eq_R ht hu rfl rfl) h)

theorem own_wb {Z : State} {a0 : Array Value} (hw : ∀ d ∈ tables_1, d.before a0 Z = true) : (Jvm.Cond.arrayClass .byte).before a0 Z = true := (hw _ (List.mem_of_getElem? (i := 15) rfl))
theorem own_wi {Z : State} {a0 : Array Value} (hw : ∀ d ∈ tables_1, d.before a0 Z = true) : (Jvm.Cond.instantiable "java/lang/String" 4).before a0 Z = true := (hw _ (List.mem_of_getElem? (i := 2) rfl))
theorem ltA {a b : Nat} (h : @LT.lt Addr instLTNat a b) : @LT.lt Nat instLTNat a b := h
theorem ltN {a b : Nat} (h : @LT.lt Nat instLTNat a b) : @LT.lt Addr instLTNat a b := h
theorem wz {a b : Nat} (h : a = b) : a ≤ b := Nat.le_of_eq h
theorem neN {a b : Nat} (h : @Ne Nat a b) : @Ne Addr a b := h
abbrev HW (Z : State) (a0 : Array Value) : Prop := ∀ d ∈ tables_1, d.before a0 Z = true
abbrev RM (f c s l : Nat) : Room := { frames := f, cells := c, slots := s, locals := l }
abbrev OwnM (l : Launch) (Z : State) (h0 : Heap) (y : MethodName) (cs : List Jvm.Cond) (rm : Room) (as' : Array Value) (Q : Option Value → Heap → List Loc → Prop) : Prop := MetFree l y (head1 cs rm) (fun a U => a = as' ∧ Z.Warmed39 U.vm ∧ U.heap = h0) (fun _ _ _ _ _ => True) (fun _ U o U' => ∃ v L, o = .returned v ∧ Q v U'.heap L ∧ FrameEnd U o U' L rm.cells rm.slots)
abbrev OwnW (l : Launch) (Z : State) (h0 : Heap) (y : MethodName) (cs : List Jvm.Cond) (rm : Room) (as' : Array Value) (sf : List Addr) (Q : Option Value → Heap → List Loc → Prop) : Prop := MetFree l y (head1 cs rm) (fun a U => a = as' ∧ Z.Warmed39 U.vm ∧ U.heap = h0 ∧ CHv Z EL1 U.vm h0 ∧ ∀ x ∈ sf, Safe Z EL1 U.vm h0 x) (fun _ _ _ _ _ => True) (fun _ U o U' => ∃ v L, o = .returned v ∧ Q v U'.heap L ∧ CHr Z EL1 U.vm U.heap U'.vm U'.heap ∧ ReturnedEndW U o U' L rm.cells rm.slots)
set_option maxRecDepth 65536
set_option maxHeartbeats 40000000
abbrev GO (p : Program) (e : Env) (below : List Frame) (T : State) (g : JFrame) (t : State) : Prop := Steps p.tables e below (T.setTop g) t
theorem wd {Z : State} {a0 : Array Value} (hw : ∀ d ∈ tables_1, d.before a0 Z = true) (i : Nat) {d : Jvm.Cond} (h : tables_1[i]? = some d) : d.before a0 Z = true := hw _ (List.mem_of_getElem? h)
abbrev la0 (x0 : Addr) (x1 : Addr) (x2 : Int32) (x3 : Int32) : Array Slot := #[.val (.ref x0), .val (.ref x1), .val (.int x2), .val (.int x3), .val .null, .unset]
abbrev la1 (x0 : Addr) (x1 : Int32) (x2 : Int32) : Array Slot := #[.val (.ref x0), .val (.int x1), .val (.int x2), .unset, .unset]
abbrev la2 (x0 : Addr) (x1 : Int32) (x2 : Int32) (x3 : Int32) : Array Slot := #[.val (.ref x0), .val (.int x1), .val (.int x2), .val (.int x3), .unset]
abbrev la3 (x0 : Addr) (x1 : Int32) (x2 : Int32) (x3 : Int32) (x4 : Int32) : Array Slot := #[.val (.ref x0), .val (.int x1), .val (.int x2), .val (.int x3), .val (.int x4)]
abbrev la4 (x0 : Int32) (x1 : Addr) : Array Slot := #[.val (.int x0), .val (.ref x1), .unset, .unset, .unset, .unset, .unset]
abbrev la5 (x0 : Int32) (x1 : Addr) (x2 : Int32) : Array Slot := #[.val (.int x0), .val (.ref x1), .val (.int x2), .unset, .unset, .unset, .unset]
abbrev la6 (x0 : Int32) (x1 : Addr) (x2 : Int32) (x3 : Addr) : Array Slot := #[.val (.int x0), .val (.ref x1), .val (.int x2), .val (.ref x3), .unset, .unset, .unset]
abbrev la7 (x0 : Addr) (x1 : Int32) (x2 : Addr) : Array Slot := #[.val (.ref x0), .val (.int x1), .val (.ref x2)]
abbrev la8 (x0 : Addr) (x1 : Int32) : Array Slot := #[.val (.ref x0), .val (.int x1), .unset]
abbrev la9 (x0 : Addr) (x1 : Int32) (x2 : Int32) : Array Slot := #[.val (.ref x0), .val (.int x1), .val (.int x2)]
abbrev la10 (x0 : Addr) (x1 : Addr) (x2 : Int32) (x3 : Int32) : Array Slot := #[.val (.ref x0), .val (.ref x1), .val (.int x2), .val (.int x3)]
abbrev la11 (x0 : Addr) (x1 : Addr) : Array Slot := #[.val (.ref x0), .val (.ref x1), .unset]
abbrev la12 (x0 : Addr) (x1 : Addr) (x2 : Int32) : Array Slot := #[.val (.ref x0), .val (.ref x1), .val (.int x2)]
abbrev la13 (x0 : Addr) (x1 : Int32) (x2 : Int32) (x3 : Int32) (x4 : Addr) : Array Slot := #[.val (.ref x0), .val (.int x1), .val (.int x2), .val (.int x3), .val (.ref x4)]
abbrev la14 (x0 : Addr) (x1 : Addr) : Array Slot := #[.val (.ref x0), .val (.ref x1), .val .null, .unset, .unset]
abbrev la15 (x0 : Addr) (x1 : Addr) (x3 : Addr) : Array Slot := #[.val (.ref x0), .val (.ref x1), .val .null, .val (.ref x3), .unset]
abbrev la16 (x0 : Addr) (x1 : Addr) (x3 : Addr) (x4 : Int32) : Array Slot := #[.val (.ref x0), .val (.ref x1), .val .null, .val (.ref x3), .val (.int x4)]
abbrev la17 (x0 : Int32) (x1 : Int32) (x2 : Int32) (x3 : Int32) : Array Slot := #[.val (.int x0), .val (.int x1), .val (.int x2), .val (.int x3), .unset, .unset, .unset, .unset, .unset, .unset, .unset]
abbrev la18 (x0 : Int32) (x1 : Int32) (x2 : Int32) (x3 : Int32) (x4 : Int32) : Array Slot := #[.val (.int x0), .val (.int x1), .val (.int x2), .val (.int x3), .val (.int x4), .unset, .unset, .unset, .unset, .unset, .unset]
abbrev la19 (x0 : Int32) (x1 : Int32) (x2 : Int32) (x3 : Int32) (x4 : Int32) (x5 : Int32) : Array Slot := #[.val (.int x0), .val (.int x1), .val (.int x2), .val (.int x3), .val (.int x4), .val (.int x5), .unset, .unset, .unset, .unset, .unset]
abbrev la20 (x0 : Int32) (x1 : Int32) (x2 : Int32) (x3 : Int32) (x4 : Int32) (x5 : Int32) (x6 : Int32) : Array Slot := #[.val (.int x0), .val (.int x1), .val (.int x2), .val (.int x3), .val (.int x4), .val (.int x5), .val (.int x6), .unset, .unset, .unset, .unset]
abbrev la21 (x0 : Int32) (x1 : Int32) (x2 : Int32) (x3 : Int32) (x4 : Int32) (x5 : Int32) (x6 : Int32) (x7 : Int32) : Array Slot := #[.val (.int x0), .val (.int x1), .val (.int x2), .val (.int x3), .val (.int x4), .val (.int x5), .val (.int x6), .val (.int x7), .unset, .unset, .unset]
abbrev la22 (x0 : Int32) (x1 : Int32) (x2 : Int32) (x3 : Int32) (x4 : Int32) (x5 : Int32) (x6 : Int32) (x7 : Int32) (x8 : Addr) : Array Slot := #[.val (.int x0), .val (.int x1), .val (.int x2), .val (.int x3), .val (.int x4), .val (.int x5), .val (.int x6), .val (.int x7), .val (.ref x8), .unset, .unset]
abbrev la23 (x0 : Int32) (x1 : Int32) (x2 : Int32) (x3 : Int32) (x4 : Int32) (x5 : Int32) (x6 : Int32) (x7 : Int32) (x8 : Addr) (x9 : Addr) : Array Slot := #[.val (.int x0), .val (.int x1), .val (.int x2), .val (.int x3), .val (.int x4), .val (.int x5), .val (.int x6), .val (.int x7), .val (.ref x8), .val (.ref x9), .unset]
abbrev la24 (x0 : Int32) (x1 : Int32) (x2 : Int32) (x3 : Int32) (x4 : Int32) (x5 : Int32) (x6 : Int32) (x7 : Int32) (x8 : Addr) (x9 : Addr) (x10 : Addr) : Array Slot := #[.val (.int x0), .val (.int x1), .val (.int x2), .val (.int x3), .val (.int x4), .val (.int x5), .val (.int x6), .val (.int x7), .val (.ref x8), .val (.ref x9), .val (.ref x10)]
theorem pd_0 : parseMethodDescriptor "([CIILjava/lang/Void;)V" = some ⟨[(.array .char), .int, .int, (.object "java/lang/Void")], none⟩ := by decide +kernel
theorem pd_1 : parseMethodDescriptor "([BII)I" = some ⟨[(.array .byte), .int, .int], some .int⟩ := by decide +kernel
theorem pd_2 : parseMethodDescriptor "(B[B)[B" = some ⟨[.byte, (.array .byte)], some (.array .byte)⟩ := by decide +kernel
theorem pd_3 : parseMethodDescriptor "()B" = some ⟨[], some .byte⟩ := by decide +kernel
theorem pd_4 : parseMethodDescriptor "(Ljava/nio/charset/Charset;B[B)[B" = some ⟨[(.object "java/nio/charset/Charset"), .byte, (.array .byte)], some (.array .byte)⟩ := by decide +kernel
theorem pd_5 : parseMethodDescriptor "(I)V" = some ⟨[.int], none⟩ := by decide +kernel
theorem pd_6 : parseMethodDescriptor "(Ljava/lang/String;)V" = some ⟨[(.object "java/lang/String")], none⟩ := by decide +kernel
theorem pd_7 : parseMethodDescriptor "([BIB)V" = some ⟨[(.array .byte), .int, .byte], none⟩ := by decide +kernel
theorem pd_8 : parseMethodDescriptor "()I" = some ⟨[], some .int⟩ := by decide +kernel
theorem pd_9 : parseMethodDescriptor "(ILjava/lang/String;)V" = some ⟨[.int, (.object "java/lang/String")], none⟩ := by decide +kernel
theorem pd_10 : parseMethodDescriptor "(Ljava/lang/String;)Ljava/lang/AbstractStringBuilder;" = some ⟨[(.object "java/lang/String")], some (.object "java/lang/AbstractStringBuilder")⟩ := by decide +kernel
theorem pd_11 : parseMethodDescriptor "(II)V" = some ⟨[.int, .int], none⟩ := by decide +kernel
theorem pd_12 : parseMethodDescriptor "(II)I" = some ⟨[.int, .int], some .int⟩ := by decide +kernel
theorem pd_13 : parseMethodDescriptor "([BII)[B" = some ⟨[(.array .byte), .int, .int], some (.array .byte)⟩ := by decide +kernel
theorem pd_14 : parseMethodDescriptor "()[B" = some ⟨[], some (.array .byte)⟩ := by decide +kernel
theorem pd_15 : parseMethodDescriptor "()Z" = some ⟨[], some .boolean⟩ := by decide +kernel
theorem pd_16 : parseMethodDescriptor "(Ljava/lang/AbstractStringBuilder;Ljava/lang/Void;)V" = some ⟨[(.object "java/lang/AbstractStringBuilder"), (.object "java/lang/Void")], none⟩ := by decide +kernel
theorem pd_17 : parseMethodDescriptor "(Ljava/lang/StringBuilder;)V" = some ⟨[(.object "java/lang/StringBuilder")], none⟩ := by decide +kernel
theorem pd_18 : parseMethodDescriptor "()V" = some ⟨[], none⟩ := by decide +kernel
theorem pd_19 : parseMethodDescriptor "(Ljava/lang/String;)Ljava/lang/StringBuilder;" = some ⟨[(.object "java/lang/String")], some (.object "java/lang/StringBuilder")⟩ := by decide +kernel
theorem pd_20 : parseMethodDescriptor "()Ljava/lang/String;" = some ⟨[], some (.object "java/lang/String")⟩ := by decide +kernel
theorem pd_21 : parseMethodDescriptor "(Ljava/nio/charset/Charset;)[B" = some ⟨[(.object "java/nio/charset/Charset")], some (.array .byte)⟩ := by decide +kernel
theorem pd_22 : parseMethodDescriptor "([C)V" = some ⟨[(.array .char)], none⟩ := by decide +kernel
theorem pd_23 : parseMethodDescriptor "(Ljava/lang/String;)[B" = some ⟨[(.object "java/lang/String")], some (.array .byte)⟩ := by decide +kernel
theorem pn_0 : plainName "java/lang/String" = true := by first | (simp [plainName, overriddenIn]; done) | decide +kernel
theorem pn_1 : plainName "java/lang/StringCoding" = true := by first | (simp [plainName, overriddenIn]; done) | decide +kernel
theorem pn_2 : plainName "java/lang/AbstractStringBuilder" = true := by first | (simp [plainName, overriddenIn]; done) | decide +kernel
theorem pn_3 : plainName "java/lang/StringBuilder" = true := by first | (simp [plainName, overriddenIn]; done) | decide +kernel
theorem pn_4 : plainName "java/util/Arrays" = true := by first | (simp [plainName, overriddenIn]; done) | decide +kernel
theorem pn_5 : plainName "com/example/holdtube/holdtube/Seal" = true := by first | (simp [plainName, overriddenIn]; done) | decide +kernel
theorem pn_6 : plainName "com/example/holdtube/holdtube/SealLinePinLaw" = true := by first | (simp [plainName, overriddenIn]; done) | decide +kernel
theorem d2_0 : decode jdk_42_method_149_code 0 = .ok (.aload_n 0, 1) := by decide +kernel
theorem d2_1 : decode jdk_42_method_149_code 1 = .ok (.invokespecial 1, 3) := by decide +kernel
theorem d2_4 : decode jdk_42_method_149_code 4 = .ok (.iload_n 3, 1) := by decide +kernel
theorem d2_5 : decode jdk_42_method_149_code 5 = .ok (.ifCond .ne 22, 3) := by decide +kernel
theorem d2_8 : decode jdk_42_method_149_code 8 = .ok (.aload_n 0, 1) := by decide +kernel
theorem d2_9 : decode jdk_42_method_149_code 9 = .ok (.ldc 7, 2) := by decide +kernel
theorem d2_11 : decode jdk_42_method_149_code 11 = .ok (.getfield 9, 3) := by decide +kernel
theorem d2_14 : decode jdk_42_method_149_code 14 = .ok (.putfield 9, 3) := by decide +kernel
theorem d2_17 : decode jdk_42_method_149_code 17 = .ok (.aload_n 0, 1) := by decide +kernel
theorem d2_18 : decode jdk_42_method_149_code 18 = .ok (.ldc 7, 2) := by decide +kernel
theorem d2_20 : decode jdk_42_method_149_code 20 = .ok (.getfield 15, 3) := by decide +kernel
theorem d2_23 : decode jdk_42_method_149_code 23 = .ok (.putfield 15, 3) := by decide +kernel
theorem d2_26 : decode jdk_42_method_149_code 26 = .ok (.return_, 1) := by decide +kernel
theorem d1_0 : decode jdk_42_method_3_code 0 = .ok (.aload_n 0, 1) := by decide +kernel
theorem d1_1 : decode jdk_42_method_3_code 1 = .ok (.aload_n 1, 1) := by decide +kernel
theorem d1_2 : decode jdk_42_method_3_code 2 = .ok (.iconst 0, 1) := by decide +kernel
theorem d1_3 : decode jdk_42_method_3_code 3 = .ok (.aload_n 1, 1) := by decide +kernel
theorem d1_4 : decode jdk_42_method_3_code 4 = .ok (.arraylength, 1) := by decide +kernel
theorem d1_5 : decode jdk_42_method_3_code 5 = .ok (.aconst_null, 1) := by decide +kernel
theorem d1_6 : decode jdk_42_method_3_code 6 = .ok (.invokespecial 27, 3) := by decide +kernel
theorem d1_9 : decode jdk_42_method_3_code 9 = .ok (.return_, 1) := by decide +kernel
theorem d29_0 : decode jdk_123_method_3_code 0 = .ok (.iload_n 1, 1) := by decide +kernel
theorem d29_1 : decode jdk_123_method_3_code 1 = .ok (.iload_n 2, 1) := by decide +kernel
theorem d29_2 : decode jdk_123_method_3_code 2 = .ok (.iadd, 1) := by decide +kernel
theorem d29_3 : decode jdk_123_method_3_code 3 = .ok (.istore_n 3, 1) := by decide +kernel
theorem d29_4 : decode jdk_123_method_3_code 4 = .ok (.iload_n 1, 1) := by decide +kernel
theorem d29_5 : decode jdk_123_method_3_code 5 = .ok (.istore 4, 2) := by decide +kernel
theorem d29_7 : decode jdk_123_method_3_code 7 = .ok (.iload 4, 2) := by decide +kernel
theorem d29_9 : decode jdk_123_method_3_code 9 = .ok (.iload_n 3, 1) := by decide +kernel
theorem d29_10 : decode jdk_123_method_3_code 10 = .ok (.if_icmp .ge 21, 3) := by decide +kernel
theorem d29_13 : decode jdk_123_method_3_code 13 = .ok (.aload_n 0, 1) := by decide +kernel
theorem d29_14 : decode jdk_123_method_3_code 14 = .ok (.iload 4, 2) := by decide +kernel
theorem d29_16 : decode jdk_123_method_3_code 16 = .ok (.baload, 1) := by decide +kernel
theorem d29_17 : decode jdk_123_method_3_code 17 = .ok (.ifCond .ge 8, 3) := by decide +kernel
theorem d29_25 : decode jdk_123_method_3_code 25 = .ok (.iinc 4 1, 3) := by decide +kernel
theorem d29_28 : decode jdk_123_method_3_code 28 = .ok (.goto (-21), 3) := by decide +kernel
theorem d29_31 : decode jdk_123_method_3_code 31 = .ok (.iload_n 2, 1) := by decide +kernel
theorem d29_32 : decode jdk_123_method_3_code 32 = .ok (.ireturn, 1) := by decide +kernel
theorem d28_0 : decode jdk_42_method_24_code 0 = .ok (.iload_n 0, 1) := by decide +kernel
theorem d28_1 : decode jdk_42_method_24_code 1 = .ok (.ifCond .ne 32, 3) := by decide +kernel
theorem d28_4 : decode jdk_42_method_24_code 4 = .ok (.aload_n 1, 1) := by decide +kernel
theorem d28_5 : decode jdk_42_method_24_code 5 = .ok (.iconst 0, 1) := by decide +kernel
theorem d28_6 : decode jdk_42_method_24_code 6 = .ok (.aload_n 1, 1) := by decide +kernel
theorem d28_7 : decode jdk_42_method_24_code 7 = .ok (.arraylength, 1) := by decide +kernel
theorem d28_8 : decode jdk_42_method_24_code 8 = .ok (.invokestatic 92, 3) := by decide +kernel
theorem d28_11 : decode jdk_42_method_24_code 11 = .ok (.istore_n 2, 1) := by decide +kernel
theorem d28_12 : decode jdk_42_method_24_code 12 = .ok (.aload_n 1, 1) := by decide +kernel
theorem d28_13 : decode jdk_42_method_24_code 13 = .ok (.invokevirtual 279, 3) := by decide +kernel
theorem d28_16 : decode jdk_42_method_24_code 16 = .ok (.checkcast 280, 3) := by decide +kernel
theorem d28_19 : decode jdk_42_method_24_code 19 = .ok (.astore_n 3, 1) := by decide +kernel
theorem d28_20 : decode jdk_42_method_24_code 20 = .ok (.iload_n 2, 1) := by decide +kernel
theorem d28_21 : decode jdk_42_method_24_code 21 = .ok (.aload_n 3, 1) := by decide +kernel
theorem d28_22 : decode jdk_42_method_24_code 22 = .ok (.arraylength, 1) := by decide +kernel
theorem d28_23 : decode jdk_42_method_24_code 23 = .ok (.if_icmp .ge 8, 3) := by decide +kernel
theorem d28_31 : decode jdk_42_method_24_code 31 = .ok (.aload_n 3, 1) := by decide +kernel
theorem d28_32 : decode jdk_42_method_24_code 32 = .ok (.areturn, 1) := by decide +kernel
theorem d27_0 : decode jdk_42_method_18_code 0 = .ok (.aload_n 0, 1) := by decide +kernel
theorem d27_1 : decode jdk_42_method_18_code 1 = .ok (.getstatic 86, 3) := by decide +kernel
theorem d27_4 : decode jdk_42_method_18_code 4 = .ok (.if_acmp .ne 10, 3) := by decide +kernel
theorem d27_14 : decode jdk_42_method_18_code 14 = .ok (.aload_n 0, 1) := by decide +kernel
theorem d27_15 : decode jdk_42_method_18_code 15 = .ok (.getstatic 116, 3) := by decide +kernel
theorem d27_18 : decode jdk_42_method_18_code 18 = .ok (.if_acmp .ne 9, 3) := by decide +kernel
theorem d27_27 : decode jdk_42_method_18_code 27 = .ok (.aload_n 0, 1) := by decide +kernel
theorem d27_28 : decode jdk_42_method_18_code 28 = .ok (.getstatic 123, 3) := by decide +kernel
theorem d27_31 : decode jdk_42_method_18_code 31 = .ok (.if_acmp .ne 9, 3) := by decide +kernel
theorem d27_34 : decode jdk_42_method_18_code 34 = .ok (.iload_n 1, 1) := by decide +kernel
theorem d27_35 : decode jdk_42_method_18_code 35 = .ok (.aload_n 2, 1) := by decide +kernel
theorem d27_36 : decode jdk_42_method_18_code 36 = .ok (.invokestatic 260, 3) := by decide +kernel
theorem d27_39 : decode jdk_42_method_18_code 39 = .ok (.areturn, 1) := by decide +kernel
theorem d10_0 : decode jdk_42_method_152_code 0 = .ok (.getstatic 38, 3) := by decide +kernel
theorem d10_3 : decode jdk_42_method_152_code 3 = .ok (.ifCond .eq 10, 3) := by decide +kernel
theorem d10_6 : decode jdk_42_method_152_code 6 = .ok (.aload_n 0, 1) := by decide +kernel
theorem d10_7 : decode jdk_42_method_152_code 7 = .ok (.getfield 15, 3) := by decide +kernel
theorem d10_10 : decode jdk_42_method_152_code 10 = .ok (.goto 4, 3) := by decide +kernel
theorem d10_14 : decode jdk_42_method_152_code 14 = .ok (.ireturn, 1) := by decide +kernel
theorem d26_0 : decode jdk_42_method_64_code 0 = .ok (.aload_n 1, 1) := by decide +kernel
theorem d26_1 : decode jdk_42_method_64_code 1 = .ok (.ifnonnull 11, 3) := by decide +kernel
theorem d26_12 : decode jdk_42_method_64_code 12 = .ok (.aload_n 1, 1) := by decide +kernel
theorem d26_13 : decode jdk_42_method_64_code 13 = .ok (.aload_n 0, 1) := by decide +kernel
theorem d26_14 : decode jdk_42_method_64_code 14 = .ok (.invokevirtual 335, 3) := by decide +kernel
theorem d26_17 : decode jdk_42_method_64_code 17 = .ok (.aload_n 0, 1) := by decide +kernel
theorem d26_18 : decode jdk_42_method_64_code 18 = .ok (.getfield 9, 3) := by decide +kernel
theorem d26_21 : decode jdk_42_method_64_code 21 = .ok (.invokestatic 535, 3) := by decide +kernel
theorem d26_24 : decode jdk_42_method_64_code 24 = .ok (.areturn, 1) := by decide +kernel
theorem d6_0 : decode jdk_68_method_2_code 0 = .ok (.aload_n 0, 1) := by decide +kernel
theorem d6_1 : decode jdk_68_method_2_code 1 = .ok (.invokespecial 3, 3) := by decide +kernel
theorem d6_4 : decode jdk_68_method_2_code 4 = .ok (.getstatic 18, 3) := by decide +kernel
theorem d6_7 : decode jdk_68_method_2_code 7 = .ok (.ifCond .eq 18, 3) := by decide +kernel
theorem d6_10 : decode jdk_68_method_2_code 10 = .ok (.aload_n 0, 1) := by decide +kernel
theorem d6_11 : decode jdk_68_method_2_code 11 = .ok (.iload_n 1, 1) := by decide +kernel
theorem d6_12 : decode jdk_68_method_2_code 12 = .ok (.newarray .byte, 2) := by decide +kernel
theorem d6_14 : decode jdk_68_method_2_code 14 = .ok (.putfield 15, 3) := by decide +kernel
theorem d6_17 : decode jdk_68_method_2_code 17 = .ok (.aload_n 0, 1) := by decide +kernel
theorem d6_18 : decode jdk_68_method_2_code 18 = .ok (.iconst 0, 1) := by decide +kernel
theorem d6_19 : decode jdk_68_method_2_code 19 = .ok (.putfield 22, 3) := by decide +kernel
theorem d6_22 : decode jdk_68_method_2_code 22 = .ok (.goto 16, 3) := by decide +kernel
theorem d6_38 : decode jdk_68_method_2_code 38 = .ok (.return_, 1) := by decide +kernel
theorem d5_0 : decode jdk_67_method_1_code 0 = .ok (.aload_n 0, 1) := by decide +kernel
theorem d5_1 : decode jdk_67_method_1_code 1 = .ok (.bipush 16, 2) := by decide +kernel
theorem d5_3 : decode jdk_67_method_1_code 3 = .ok (.invokespecial 1, 3) := by decide +kernel
theorem d5_6 : decode jdk_67_method_1_code 6 = .ok (.return_, 1) := by decide +kernel
theorem d9_0 : decode jdk_42_method_54_code 0 = .ok (.aload_n 0, 1) := by decide +kernel
theorem d9_1 : decode jdk_42_method_54_code 1 = .ok (.getfield 9, 3) := by decide +kernel
theorem d9_4 : decode jdk_42_method_54_code 4 = .ok (.arraylength, 1) := by decide +kernel
theorem d9_5 : decode jdk_42_method_54_code 5 = .ok (.aload_n 0, 1) := by decide +kernel
theorem d9_6 : decode jdk_42_method_54_code 6 = .ok (.invokevirtual 335, 3) := by decide +kernel
theorem d9_9 : decode jdk_42_method_54_code 9 = .ok (.ishr, 1) := by decide +kernel
theorem d9_10 : decode jdk_42_method_54_code 10 = .ok (.ireturn, 1) := by decide +kernel
theorem d11_0 : decode jdk_68_method_9_code 0 = .ok (.aload_n 0, 1) := by decide +kernel
theorem d11_1 : decode jdk_68_method_9_code 1 = .ok (.getfield 15, 3) := by decide +kernel
theorem d11_4 : decode jdk_68_method_9_code 4 = .ok (.arraylength, 1) := by decide +kernel
theorem d11_5 : decode jdk_68_method_9_code 5 = .ok (.aload_n 0, 1) := by decide +kernel
theorem d11_6 : decode jdk_68_method_9_code 6 = .ok (.getfield 22, 3) := by decide +kernel
theorem d11_9 : decode jdk_68_method_9_code 9 = .ok (.ishr, 1) := by decide +kernel
theorem d11_10 : decode jdk_68_method_9_code 10 = .ok (.istore_n 2, 1) := by decide +kernel
theorem d11_11 : decode jdk_68_method_9_code 11 = .ok (.iload_n 1, 1) := by decide +kernel
theorem d11_12 : decode jdk_68_method_9_code 12 = .ok (.iload_n 2, 1) := by decide +kernel
theorem d11_13 : decode jdk_68_method_9_code 13 = .ok (.isub, 1) := by decide +kernel
theorem d11_14 : decode jdk_68_method_9_code 14 = .ok (.ifCond .le 24, 3) := by decide +kernel
theorem d11_38 : decode jdk_68_method_9_code 38 = .ok (.return_, 1) := by decide +kernel
theorem d13_0 : decode jdk_68_method_71_code 0 = .ok (.getstatic 18, 3) := by decide +kernel
theorem d13_3 : decode jdk_68_method_71_code 3 = .ok (.ifCond .eq 18, 3) := by decide +kernel
theorem d13_6 : decode jdk_68_method_71_code 6 = .ok (.aload_n 0, 1) := by decide +kernel
theorem d13_7 : decode jdk_68_method_71_code 7 = .ok (.getfield 22, 3) := by decide +kernel
theorem d13_10 : decode jdk_68_method_71_code 10 = .ok (.aload_n 1, 1) := by decide +kernel
theorem d13_11 : decode jdk_68_method_71_code 11 = .ok (.invokevirtual 40, 3) := by decide +kernel
theorem d13_14 : decode jdk_68_method_71_code 14 = .ok (.if_icmp .eq 7, 3) := by decide +kernel
theorem d13_21 : decode jdk_68_method_71_code 21 = .ok (.return_, 1) := by decide +kernel
theorem d14_0 : decode jdk_42_method_147_code 0 = .ok (.aload_n 0, 1) := by decide +kernel
theorem d14_1 : decode jdk_42_method_147_code 1 = .ok (.invokevirtual 335, 3) := by decide +kernel
theorem d14_4 : decode jdk_42_method_147_code 4 = .ok (.iload_n 3, 1) := by decide +kernel
theorem d14_5 : decode jdk_42_method_147_code 5 = .ok (.if_icmp .ne 23, 3) := by decide +kernel
theorem d14_8 : decode jdk_42_method_147_code 8 = .ok (.aload_n 0, 1) := by decide +kernel
theorem d14_9 : decode jdk_42_method_147_code 9 = .ok (.getfield 9, 3) := by decide +kernel
theorem d14_12 : decode jdk_42_method_147_code 12 = .ok (.iconst 0, 1) := by decide +kernel
theorem d14_13 : decode jdk_42_method_147_code 13 = .ok (.aload_n 1, 1) := by decide +kernel
theorem d14_14 : decode jdk_42_method_147_code 14 = .ok (.iload_n 2, 1) := by decide +kernel
theorem d14_15 : decode jdk_42_method_147_code 15 = .ok (.iload_n 3, 1) := by decide +kernel
theorem d14_16 : decode jdk_42_method_147_code 16 = .ok (.ishl, 1) := by decide +kernel
theorem d14_17 : decode jdk_42_method_147_code 17 = .ok (.aload_n 0, 1) := by decide +kernel
theorem d14_18 : decode jdk_42_method_147_code 18 = .ok (.getfield 9, 3) := by decide +kernel
theorem d14_21 : decode jdk_42_method_147_code 21 = .ok (.arraylength, 1) := by decide +kernel
theorem d14_22 : decode jdk_42_method_147_code 22 = .ok (.invokestatic 212, 3) := by decide +kernel
theorem d14_25 : decode jdk_42_method_147_code 25 = .ok (.goto 18, 3) := by decide +kernel
theorem d14_43 : decode jdk_42_method_147_code 43 = .ok (.return_, 1) := by decide +kernel
theorem d12_0 : decode jdk_68_method_73_code 0 = .ok (.aload_n 0, 1) := by decide +kernel
theorem d12_1 : decode jdk_68_method_73_code 1 = .ok (.aload_n 2, 1) := by decide +kernel
theorem d12_2 : decode jdk_68_method_73_code 2 = .ok (.invokevirtual 397, 3) := by decide +kernel
theorem d12_5 : decode jdk_68_method_73_code 5 = .ok (.aload_n 2, 1) := by decide +kernel
theorem d12_6 : decode jdk_68_method_73_code 6 = .ok (.aload_n 0, 1) := by decide +kernel
theorem d12_7 : decode jdk_68_method_73_code 7 = .ok (.getfield 15, 3) := by decide +kernel
theorem d12_10 : decode jdk_68_method_73_code 10 = .ok (.iload_n 1, 1) := by decide +kernel
theorem d12_11 : decode jdk_68_method_73_code 11 = .ok (.aload_n 0, 1) := by decide +kernel
theorem d12_12 : decode jdk_68_method_73_code 12 = .ok (.getfield 22, 3) := by decide +kernel
theorem d12_15 : decode jdk_68_method_73_code 15 = .ok (.invokevirtual 399, 3) := by decide +kernel
theorem d12_18 : decode jdk_68_method_73_code 18 = .ok (.return_, 1) := by decide +kernel
theorem d8_0 : decode jdk_68_method_22_code 0 = .ok (.aload_n 1, 1) := by decide +kernel
theorem d8_1 : decode jdk_68_method_22_code 1 = .ok (.ifnonnull 8, 3) := by decide +kernel
theorem d8_9 : decode jdk_68_method_22_code 9 = .ok (.aload_n 1, 1) := by decide +kernel
theorem d8_10 : decode jdk_68_method_22_code 10 = .ok (.invokevirtual 32, 3) := by decide +kernel
theorem d8_13 : decode jdk_68_method_22_code 13 = .ok (.istore_n 2, 1) := by decide +kernel
theorem d8_14 : decode jdk_68_method_22_code 14 = .ok (.aload_n 0, 1) := by decide +kernel
theorem d8_15 : decode jdk_68_method_22_code 15 = .ok (.aload_n 0, 1) := by decide +kernel
theorem d8_16 : decode jdk_68_method_22_code 16 = .ok (.getfield 79, 3) := by decide +kernel
theorem d8_19 : decode jdk_68_method_22_code 19 = .ok (.iload_n 2, 1) := by decide +kernel
theorem d8_20 : decode jdk_68_method_22_code 20 = .ok (.iadd, 1) := by decide +kernel
theorem d8_21 : decode jdk_68_method_22_code 21 = .ok (.invokevirtual 100, 3) := by decide +kernel
theorem d8_24 : decode jdk_68_method_22_code 24 = .ok (.aload_n 0, 1) := by decide +kernel
theorem d8_25 : decode jdk_68_method_22_code 25 = .ok (.aload_n 0, 1) := by decide +kernel
theorem d8_26 : decode jdk_68_method_22_code 26 = .ok (.getfield 79, 3) := by decide +kernel
theorem d8_29 : decode jdk_68_method_22_code 29 = .ok (.aload_n 1, 1) := by decide +kernel
theorem d8_30 : decode jdk_68_method_22_code 30 = .ok (.invokevirtual 208, 3) := by decide +kernel
theorem d8_33 : decode jdk_68_method_22_code 33 = .ok (.aload_n 0, 1) := by decide +kernel
theorem d8_34 : decode jdk_68_method_22_code 34 = .ok (.dup, 1) := by decide +kernel
theorem d8_35 : decode jdk_68_method_22_code 35 = .ok (.getfield 79, 3) := by decide +kernel
theorem d8_38 : decode jdk_68_method_22_code 38 = .ok (.iload_n 2, 1) := by decide +kernel
theorem d8_39 : decode jdk_68_method_22_code 39 = .ok (.iadd, 1) := by decide +kernel
theorem d8_40 : decode jdk_68_method_22_code 40 = .ok (.putfield 79, 3) := by decide +kernel
theorem d8_43 : decode jdk_68_method_22_code 43 = .ok (.aload_n 0, 1) := by decide +kernel
theorem d8_44 : decode jdk_68_method_22_code 44 = .ok (.areturn, 1) := by decide +kernel
theorem d7_0 : decode jdk_67_method_7_code 0 = .ok (.aload_n 0, 1) := by decide +kernel
theorem d7_1 : decode jdk_67_method_7_code 1 = .ok (.aload_n 1, 1) := by decide +kernel
theorem d7_2 : decode jdk_67_method_7_code 2 = .ok (.invokespecial 29, 3) := by decide +kernel
theorem d7_5 : decode jdk_67_method_7_code 5 = .ok (.pop, 1) := by decide +kernel
theorem d7_6 : decode jdk_67_method_7_code 6 = .ok (.aload_n 0, 1) := by decide +kernel
theorem d7_7 : decode jdk_67_method_7_code 7 = .ok (.areturn, 1) := by decide +kernel
theorem d18_0 : decode jdk_68_method_64_code 0 = .ok (.aload_n 0, 1) := by decide +kernel
theorem d18_1 : decode jdk_68_method_64_code 1 = .ok (.getfield 15, 3) := by decide +kernel
theorem d18_4 : decode jdk_68_method_64_code 4 = .ok (.areturn, 1) := by decide +kernel
theorem d20_0 : decode jdk_68_method_6_code 0 = .ok (.aload_n 0, 1) := by decide +kernel
theorem d20_1 : decode jdk_68_method_6_code 1 = .ok (.getfield 79, 3) := by decide +kernel
theorem d20_4 : decode jdk_68_method_6_code 4 = .ok (.ireturn, 1) := by decide +kernel
theorem d19_0 : decode jdk_67_method_93_code 0 = .ok (.aload_n 0, 1) := by decide +kernel
theorem d19_1 : decode jdk_67_method_93_code 1 = .ok (.invokespecial 343, 3) := by decide +kernel
theorem d19_4 : decode jdk_67_method_93_code 4 = .ok (.ireturn, 1) := by decide +kernel
theorem d21_0 : decode jdk_68_method_68_code 0 = .ok (.getstatic 18, 3) := by decide +kernel
theorem d21_3 : decode jdk_68_method_68_code 3 = .ok (.ifCond .eq 14, 3) := by decide +kernel
theorem d21_6 : decode jdk_68_method_68_code 6 = .ok (.aload_n 0, 1) := by decide +kernel
theorem d21_7 : decode jdk_68_method_68_code 7 = .ok (.getfield 22, 3) := by decide +kernel
theorem d21_10 : decode jdk_68_method_68_code 10 = .ok (.ifCond .ne 7, 3) := by decide +kernel
theorem d21_13 : decode jdk_68_method_68_code 13 = .ok (.iconst 1, 1) := by decide +kernel
theorem d21_14 : decode jdk_68_method_68_code 14 = .ok (.goto 4, 3) := by decide +kernel
theorem d21_18 : decode jdk_68_method_68_code 18 = .ok (.ireturn, 1) := by decide +kernel
theorem d24_0 : decode jdk_65_method_131_code 0 = .ok (.iload_n 1, 1) := by decide +kernel
theorem d24_1 : decode jdk_65_method_131_code 1 = .ok (.iload_n 0, 1) := by decide +kernel
theorem d24_2 : decode jdk_65_method_131_code 2 = .ok (.if_icmp .ge 35, 3) := by decide +kernel
theorem d24_37 : decode jdk_65_method_131_code 37 = .ok (.return_, 1) := by decide +kernel
theorem d25_0 : decode jdk_29_method_69_code 0 = .ok (.iload_n 0, 1) := by decide +kernel
theorem d25_1 : decode jdk_29_method_69_code 1 = .ok (.iload_n 1, 1) := by decide +kernel
theorem d25_2 : decode jdk_29_method_69_code 2 = .ok (.if_icmp .gt 7, 3) := by decide +kernel
theorem d25_9 : decode jdk_29_method_69_code 9 = .ok (.iload_n 1, 1) := by decide +kernel
theorem d25_10 : decode jdk_29_method_69_code 10 = .ok (.ireturn, 1) := by decide +kernel
theorem d23_0 : decode jdk_65_method_133_code 0 = .ok (.iload_n 1, 1) := by decide +kernel
theorem d23_1 : decode jdk_65_method_133_code 1 = .ok (.iload_n 2, 1) := by decide +kernel
theorem d23_2 : decode jdk_65_method_133_code 2 = .ok (.invokestatic 343, 3) := by decide +kernel
theorem d23_5 : decode jdk_65_method_133_code 5 = .ok (.iload_n 2, 1) := by decide +kernel
theorem d23_6 : decode jdk_65_method_133_code 6 = .ok (.iload_n 1, 1) := by decide +kernel
theorem d23_7 : decode jdk_65_method_133_code 7 = .ok (.isub, 1) := by decide +kernel
theorem d23_8 : decode jdk_65_method_133_code 8 = .ok (.istore_n 3, 1) := by decide +kernel
theorem d23_9 : decode jdk_65_method_133_code 9 = .ok (.iload_n 3, 1) := by decide +kernel
theorem d23_10 : decode jdk_65_method_133_code 10 = .ok (.newarray .byte, 2) := by decide +kernel
theorem d23_12 : decode jdk_65_method_133_code 12 = .ok (.astore 4, 2) := by decide +kernel
theorem d23_14 : decode jdk_65_method_133_code 14 = .ok (.aload_n 0, 1) := by decide +kernel
theorem d23_15 : decode jdk_65_method_133_code 15 = .ok (.iload_n 1, 1) := by decide +kernel
theorem d23_16 : decode jdk_65_method_133_code 16 = .ok (.aload 4, 2) := by decide +kernel
theorem d23_18 : decode jdk_65_method_133_code 18 = .ok (.iconst 0, 1) := by decide +kernel
theorem d23_19 : decode jdk_65_method_133_code 19 = .ok (.aload_n 0, 1) := by decide +kernel
theorem d23_20 : decode jdk_65_method_133_code 20 = .ok (.arraylength, 1) := by decide +kernel
theorem d23_21 : decode jdk_65_method_133_code 21 = .ok (.iload_n 1, 1) := by decide +kernel
theorem d23_22 : decode jdk_65_method_133_code 22 = .ok (.isub, 1) := by decide +kernel
theorem d23_23 : decode jdk_65_method_133_code 23 = .ok (.iload_n 3, 1) := by decide +kernel
theorem d23_24 : decode jdk_65_method_133_code 24 = .ok (.invokestatic 304, 3) := by decide +kernel
theorem d23_27 : decode jdk_65_method_133_code 27 = .ok (.invokestatic 150, 3) := by decide +kernel
theorem d23_30 : decode jdk_65_method_133_code 30 = .ok (.aload 4, 2) := by decide +kernel
theorem d23_32 : decode jdk_65_method_133_code 32 = .ok (.areturn, 1) := by decide +kernel
theorem d22_0 : decode jdk_65_method_132_code 0 = .ok (.iload_n 1, 1) := by decide +kernel
theorem d22_1 : decode jdk_65_method_132_code 1 = .ok (.ifCond .ne 9, 3) := by decide +kernel
theorem d22_4 : decode jdk_65_method_132_code 4 = .ok (.iload_n 2, 1) := by decide +kernel
theorem d22_5 : decode jdk_65_method_132_code 5 = .ok (.aload_n 0, 1) := by decide +kernel
theorem d22_6 : decode jdk_65_method_132_code 6 = .ok (.arraylength, 1) := by decide +kernel
theorem d22_7 : decode jdk_65_method_132_code 7 = .ok (.if_icmp .eq 10, 3) := by decide +kernel
theorem d22_10 : decode jdk_65_method_132_code 10 = .ok (.aload_n 0, 1) := by decide +kernel
theorem d22_11 : decode jdk_65_method_132_code 11 = .ok (.iload_n 1, 1) := by decide +kernel
theorem d22_12 : decode jdk_65_method_132_code 12 = .ok (.iload_n 2, 1) := by decide +kernel
theorem d22_13 : decode jdk_65_method_132_code 13 = .ok (.invokestatic 339, 3) := by decide +kernel
theorem d22_16 : decode jdk_65_method_132_code 16 = .ok (.areturn, 1) := by decide +kernel
theorem d17_0 : decode jdk_42_method_150_code 0 = .ok (.aload_n 0, 1) := by decide +kernel
theorem d17_1 : decode jdk_42_method_150_code 1 = .ok (.invokespecial 1, 3) := by decide +kernel
theorem d17_4 : decode jdk_42_method_150_code 4 = .ok (.aload_n 1, 1) := by decide +kernel
theorem d17_5 : decode jdk_42_method_150_code 5 = .ok (.invokevirtual 552, 3) := by decide +kernel
theorem d17_8 : decode jdk_42_method_150_code 8 = .ok (.astore_n 3, 1) := by decide +kernel
theorem d17_9 : decode jdk_42_method_150_code 9 = .ok (.aload_n 1, 1) := by decide +kernel
theorem d17_10 : decode jdk_42_method_150_code 10 = .ok (.invokevirtual 549, 3) := by decide +kernel
theorem d17_13 : decode jdk_42_method_150_code 13 = .ok (.istore 4, 2) := by decide +kernel
theorem d17_15 : decode jdk_42_method_150_code 15 = .ok (.aload_n 1, 1) := by decide +kernel
theorem d17_16 : decode jdk_42_method_150_code 16 = .ok (.invokevirtual 1047, 3) := by decide +kernel
theorem d17_19 : decode jdk_42_method_150_code 19 = .ok (.ifCond .eq 22, 3) := by decide +kernel
theorem d17_22 : decode jdk_42_method_150_code 22 = .ok (.aload_n 0, 1) := by decide +kernel
theorem d17_23 : decode jdk_42_method_150_code 23 = .ok (.iconst 0, 1) := by decide +kernel
theorem d17_24 : decode jdk_42_method_150_code 24 = .ok (.putfield 15, 3) := by decide +kernel
theorem d17_27 : decode jdk_42_method_150_code 27 = .ok (.aload_n 0, 1) := by decide +kernel
theorem d17_28 : decode jdk_42_method_150_code 28 = .ok (.aload_n 3, 1) := by decide +kernel
theorem d17_29 : decode jdk_42_method_150_code 29 = .ok (.iconst 0, 1) := by decide +kernel
theorem d17_30 : decode jdk_42_method_150_code 30 = .ok (.iload 4, 2) := by decide +kernel
theorem d17_32 : decode jdk_42_method_150_code 32 = .ok (.invokestatic 54, 3) := by decide +kernel
theorem d17_35 : decode jdk_42_method_150_code 35 = .ok (.putfield 9, 3) := by decide +kernel
theorem d17_38 : decode jdk_42_method_150_code 38 = .ok (.goto 59, 3) := by decide +kernel
theorem d17_97 : decode jdk_42_method_150_code 97 = .ok (.return_, 1) := by decide +kernel
theorem d16_0 : decode jdk_42_method_53_code 0 = .ok (.aload_n 0, 1) := by decide +kernel
theorem d16_1 : decode jdk_42_method_53_code 1 = .ok (.aload_n 1, 1) := by decide +kernel
theorem d16_2 : decode jdk_42_method_53_code 2 = .ok (.aconst_null, 1) := by decide +kernel
theorem d16_3 : decode jdk_42_method_53_code 3 = .ok (.invokespecial 489, 3) := by decide +kernel
theorem d16_6 : decode jdk_42_method_53_code 6 = .ok (.return_, 1) := by decide +kernel
theorem d15_0 : decode jdk_67_method_42_code 0 = .ok (.new 18, 3) := by decide +kernel
theorem d15_3 : decode jdk_67_method_42_code 3 = .ok (.dup, 1) := by decide +kernel
theorem d15_4 : decode jdk_67_method_42_code 4 = .ok (.aload_n 0, 1) := by decide +kernel
theorem d15_5 : decode jdk_67_method_42_code 5 = .ok (.invokespecial 137, 3) := by decide +kernel
theorem d15_8 : decode jdk_67_method_42_code 8 = .ok (.areturn, 1) := by decide +kernel
theorem d4_0 : decode prog_22_method_4_code 0 = .ok (.new 48, 3) := by decide +kernel
theorem d4_3 : decode prog_22_method_4_code 3 = .ok (.dup, 1) := by decide +kernel
theorem d4_4 : decode prog_22_method_4_code 4 = .ok (.invokespecial 50, 3) := by decide +kernel
theorem d4_7 : decode prog_22_method_4_code 7 = .ok (.aload_n 0, 1) := by decide +kernel
theorem d4_8 : decode prog_22_method_4_code 8 = .ok (.invokevirtual 51, 3) := by decide +kernel
theorem d4_11 : decode prog_22_method_4_code 11 = .ok (.ldc 55, 2) := by decide +kernel
theorem d4_13 : decode prog_22_method_4_code 13 = .ok (.invokevirtual 51, 3) := by decide +kernel
theorem d4_16 : decode prog_22_method_4_code 16 = .ok (.invokevirtual 57, 3) := by decide +kernel
theorem d4_19 : decode prog_22_method_4_code 19 = .ok (.getstatic 61, 3) := by decide +kernel
theorem d4_22 : decode prog_22_method_4_code 22 = .ok (.invokevirtual 67, 3) := by decide +kernel
theorem d4_25 : decode prog_22_method_4_code 25 = .ok (.areturn, 1) := by decide +kernel
abbrev kS0 : String := "java/lang/AbstractStringBuilder"
abbrev kS1 : String := "java/lang/String"
abbrev kS2 : String := "java/lang/StringBuilder"
abbrev kS3 : String := "(Ljava/lang/String;)Ljava/lang/AbstractStringBuilder;"
def Qrm_si0 (Z : State) (a1 : Addr) (a2 : Addr) (u1 : Value) (u2 : Value) (h0 : Heap) (n0 : Nat) (v : Option Value) (h : Heap) (L : List Loc) : Prop := ∃ t : Addr, ∃ k : ClassId, v = none ∧ Fr n0 L ∧ Keep h0 h [a1] ∧ Exa Z h a1 kS1 ∧ Fld Z h a1 kS1 "coder" "B" (.int 0) ∧ Fld Z h a1 kS1 "value" "[B" (.ref t) ∧ Arv Z h t k .byte (0 : Int32) [] (.int 0)
theorem ef_rm_si0 (m : MethodId) (x0 : Addr) (x1 : Addr) (x2 : Int32) (x3 : Int32) : entryFrame m #[(.ref x0), (.ref x1), (.int x2), (.int x3), .null] 6 = mkF m 0 (la0 x0 x1 x2 x3) [] := by first | rfl | (simp [entryFrame, mkF, argsToLocals, Value.category]; done)
theorem rm_si0 (l : Launch) (Z : State) (a0 : Array Value) (hw : HW Z a0) (ws : List Jvm.Cond) (a1 : Addr) (a2 : Addr) (u1 : Value) (u2 : Value) (h0 : Heap) (n0 : Nat) (Z0 : n0 ≤ h0.size) (E1 : Exa Z h0 a1 kS1) (Fv1 : Fld Z h0 a1 kS1 "value" "[B" u1) (Fc1 : Fld Z h0 a1 kS1 "coder" "B" u2) (g1 : n0 ≤ a1) :
  OwnW l Z h0 (⟨kS1, "<init>", "([CIILjava/lang/Void;)V"⟩ : MethodName) (Jvm.Cond.code (⟨kS1, "<init>", "([CIILjava/lang/Void;)V"⟩ : MethodName) jdk_42_method_149_code 6 none :: ws) (RM 1 4 8 12) #[(.ref a1), (.ref a2), (.int 0), (.int 0), .null] [a1] (Qrm_si0 Z a1 a2 u1 u2 h0 n0) := by
 refine MetFree.of_bodySF (plainFor_of_name pn_0) hisR ?_
 intro p e s m args below meth c s₁ Bd hml0 hP hK
 obtain ⟨rfl, hZ, hh, H0, sf⟩ := hP
 have hx := Bd.exec
 have hby := Bd.bytes
 have hml : c.maxLocals = 6 := hml0
 have hown : s.vm.findClass kS1 = some m.cls := findClass_of_methodNamed Bd.named
 have hnm := (name_of_methodNamed Bd.named Bd.method).1
 have X0 : Stand p l e (RM 1 4 8 12) (s.setVm s.vm) m #[(.ref a1), (.ref a2), (.int 0), (.int 0), .null] below meth c s₁ [] 0 0 := Stand.of_body Bd
 have hS0 : s.Since s.vm h0.size := (State.WarmedH.refl s).since _
 have C0 : CHr Z EL1 s.vm h0 s.vm h0 := CHr.refl H0
 have sf_a1 : Safe Z EL1 s.vm h0 a1 := sf _ (List.mem_of_getElem? (i := 0) rfl)
 have e0 : s₁.heap = h0 := by rw [← hh, Bd.state]; rfl
 have N0 := Fr.nil n0
 have pre0 : ∀ t, GO p e below s₁ (mkF m 0 (la0 a1 a2 (0 : Int32) (0 : Int32)) []) t → GO p e below s₁ (entryFrame m #[(.ref a1), (.ref a2), (.int 0), (.int 0), .null] 6) t := fun t k => castTop (ef_rm_si0 m a1 a2 ((0 : Int32)) ((0 : Int32))) k
 have lt_E1 := ltA E1.lt
 have lt_Fv1 := ltA Fv1.lt
 have lt_Fc1 := ltA Fc1.lt
 obtain ⟨T1, X1, e1, st1⟩ := initO X0 hx hZ hown (wd hw 11 rfl) (wd hw 12 rfl) (wd hw 13 rfl) e0 (g := (mkF m 1 (la0 a1 a2 (0 : Int32) (0 : Int32)) [(.ref a1)])) rfl (by rw [hml]; rfl) rfl (hb hby d2_1) (by decide) (W := 0) (wz rfl) (by decide)
 obtain ⟨sa2, T2, h2, kk2, sb2, sk2, X2, e2, E2, hS2, hk2, hZ2, hown2, A2, Fc2, Fv2, V2, lt2, ltb2, C2w, Lt2, ne2, st2⟩ := ldcCH X1 hx hZ hown (wd hw 14 rfl) (own_wS hw) e1 hS0 (by omega) (own_EW hw) (by decide) C0.1 (vs := []) (z := (0 : Int32)) (by decide +kernel) (by decide) (by decide) (g := (mkF m 9 (la0 a1 a2 (0 : Int32) (0 : Int32)) [(.ref a1)])) rfl (hb hby d2_9) (n := 0) (by decide) (by decide) (by decide) (by decide)
 have C3 : CHr Z EL1 s.vm h0 T2.vm h2 := C0.trans (C2w)
 have sz2 : h0.size ≤ h2.size := E2.1
 have lv2 := ltA lt2
 have lw2 := ltA ltb2
 have f4 : Safe Z EL1 T2.vm h2 a1 := (CHr.safe C2w (ltN (by omega)) sf_a1)
 have nx2_a1 := ne2 a1 f4
 obtain ⟨T5, X5, e5, st5⟩ := getF X2 hx hZ2 hown2 (host := "") (Or.inl (wd hw 20 rfl)) Via.refl e2 Fv2 (g := (mkF m 11 (la0 a1 a2 (0 : Int32) (0 : Int32)) [(.ref sa2), (.ref a1)])) rfl rfl (hb hby d2_11)
 have f6 : Fld Z h2 a1 kS1 "value" "[B" u1 := (Fv1.ext E2)
 have f7 : Exa Z h2 a1 kS1 := (E1.ext E2)
 obtain ⟨T8, h8, X8, e8, W8, st8⟩ := putF X5 hx hZ2 hown2 (host := "") (Or.inl (wd hw 20 rfl)) Via.refl e5 f6 f7 (Or.inr ⟨(wd hw 16 rfl), rfl, hnm⟩) (wd hw 2 rfl) (ty := (.array .byte)) (by decide) rfl rfl (g := (mkF m 14 (la0 a1 a2 (0 : Int32) (0 : Int32)) [(.ref sb2), (.ref a1)])) rfl rfl (hb hby d2_14)
 have N8 := Fr.snoc X8 N0 (by omega : n0 ≤ a1)
 have C9 : CHr Z EL1 s.vm h0 T2.vm h8 := C3.trans (CHr.wr W8 f4 C3.1)
 have sz8 : h2.size ≤ h8.size := Nat.le_of_eq W8.size.symm
 have f8 : Fld Z h8 a1 kS1 "value" "[B" (.ref sb2) := f6.same W8
 obtain ⟨sa10, T10, h10, kk10, sb10, sk10, X10, e10, E10, hS10, hk10, hZ10, hown10, A10, Fc10, Fv10, V10, lt10, ltb10, C10w, Lt10, ne10, st10⟩ := ldcCH X8 hx hZ2 hown2 (wd hw 14 rfl) (own_wS hw) e8 hS2 (by omega) (own_EW hw) (by decide) C9.1 (vs := []) (z := (0 : Int32)) (by decide +kernel) (by decide) (by decide) (g := (mkF m 18 (la0 a1 a2 (0 : Int32) (0 : Int32)) [(.ref a1)])) rfl (hb hby d2_18) (n := 0) (by decide) (by decide) (by decide) (by decide)
 have C11 : CHr Z EL1 s.vm h0 T10.vm h10 := C9.trans (C10w)
 have sz10 : h8.size ≤ h10.size := E10.1
 have lv10 := ltA lt10
 have lw10 := ltA ltb10
 have f12 : Safe Z EL1 T10.vm h10 a1 := (CHr.safe C10w (ltN (by omega)) (Safe.wr W8 f4 C3.1 f4))
 have nx10_a1 := ne10 a1 f12
 obtain ⟨T13, X13, e13, st13⟩ := getF X10 hx hZ10 hown10 (host := "") (Or.inl (wd hw 21 rfl)) Via.refl e10 Fc10 (g := (mkF m 20 (la0 a1 a2 (0 : Int32) (0 : Int32)) [(.ref sa10), (.ref a1)])) rfl rfl (hb hby d2_20)
 have f14 : Fld Z h10 a1 kS1 "coder" "B" u2 := (((Fc1.ext E2).other W8 (Or.inr (slot_ne (Or.inr (wd hw 17 rfl)) (Or.inr (wd hw 16 rfl)) (by decide) (t := .byte) (t' := (.array .byte)) (by decide) (by decide)))).ext E10)
 have f15 : Exa Z h10 a1 kS1 := ((f7.wr W8).ext E10)
 obtain ⟨T16, h16, X16, e16, W16, st16⟩ := putFN X13 hx hZ10 hown10 (wd hw 21 rfl) Via.refl e13 f14 f15 (Or.inr ⟨(wd hw 17 rfl), rfl, hnm⟩) (wd hw 2 rfl) (ty := .byte) (v' := (.int 0)) (by decide) rfl rfl (g := (mkF m 23 (la0 a1 a2 (0 : Int32) (0 : Int32)) [(.int 0), (.ref a1)])) rfl rfl (hb hby d2_23)
 have N16 := Fr.snoc X16 N8 (by omega : n0 ≤ a1)
 have C17 : CHr Z EL1 s.vm h0 T10.vm h16 := C11.trans (CHr.wr W16 f12 C11.1)
 have sz16 : h10.size ≤ h16.size := Nat.le_of_eq W16.size.symm
 have f16 : Fld Z h16 a1 kS1 "coder" "B" (.int 0) := f14.same W16
 have f18 : Exa Z h16 a1 kS1 := (f15.wr W16)
 have f19 : Fld Z h16 a1 kS1 "value" "[B" (.ref sb2) := ((f8.ext E10).other W16 (Or.inr (slot_ne (Or.inr (wd hw 16 rfl)) (Or.inr (wd hw 17 rfl)) (by decide) (t := (.array .byte)) (t' := .byte) (by decide) (by decide))))
 have f20 : Arv Z h16 sb2 sk2 .byte (0 : Int32) [] (.int 0) := (((V2.other W8 (Ne.symm nx2_a1.2)).ext E10).other W16 (Ne.symm nx2_a1.2))
 obtain ⟨fs, hr, hrun, hended, hE⟩ := X16.leaveW hS10 (by rw [e16]; omega) (v := none) (fun _ => rfl)
 have CE := C17.trans (CHv.at X16 hZ10 (own_EW hw) C17.1)
 refine ⟨_, _, pre0 _ ?_, hrun, hended, _, _, rfl, ?_, ?_, ⟨hE.1, hE.2.1, hE.2.2.1, hE.2.2.2.mono (by decide) (by decide)⟩⟩
 ·show GO p e below s₁ (mkF m 0 (la0 a1 a2 (0 : Int32) (0 : Int32)) []) _
  refine XS.aloadN X0.here hx rfl (hb hby d2_0) rfl rfl ?_
  show GO p e below s₁ (mkF m 1 (la0 a1 a2 (0 : Int32) (0 : Int32)) [(.ref a1)]) _
  refine st1 _ ?_
  show GO p e below T1 (mkF m 4 (la0 a1 a2 (0 : Int32) (0 : Int32)) []) _
  refine XS.iloadN X1.here hx rfl (hb hby d2_4) rfl ?_
  show GO p e below T1 (mkF m 5 (la0 a1 a2 (0 : Int32) (0 : Int32)) [(.int 0)]) _
  refine XS.ifNo X1.here hx rfl (hb hby d2_5) rfl ((if0 _ _).trans (teq (rfl : (0 : Int32) = (0 : Int32))).2) ?_
  show GO p e below T1 (mkF m 8 (la0 a1 a2 (0 : Int32) (0 : Int32)) []) _
  refine XS.aloadN X1.here hx rfl (hb hby d2_8) rfl rfl ?_
  show GO p e below T1 (mkF m 9 (la0 a1 a2 (0 : Int32) (0 : Int32)) [(.ref a1)]) _
  refine st2 _ ?_
  show GO p e below T2 (mkF m 11 (la0 a1 a2 (0 : Int32) (0 : Int32)) [(.ref sa2), (.ref a1)]) _
  refine st5 _ ?_
  show GO p e below T5 (mkF m 14 (la0 a1 a2 (0 : Int32) (0 : Int32)) [(.ref sb2), (.ref a1)]) _
  refine st8 _ ?_
  show GO p e below T8 (mkF m 17 (la0 a1 a2 (0 : Int32) (0 : Int32)) []) _
  refine XS.aloadN X8.here hx rfl (hb hby d2_17) rfl rfl ?_
  show GO p e below T8 (mkF m 18 (la0 a1 a2 (0 : Int32) (0 : Int32)) [(.ref a1)]) _
  refine st10 _ ?_
  show GO p e below T10 (mkF m 20 (la0 a1 a2 (0 : Int32) (0 : Int32)) [(.ref sa10), (.ref a1)]) _
  refine st13 _ ?_
  show GO p e below T13 (mkF m 23 (la0 a1 a2 (0 : Int32) (0 : Int32)) [(.int 0), (.ref a1)]) _
  refine st16 _ ?_
  show GO p e below T16 (mkF m 26 (la0 a1 a2 (0 : Int32) (0 : Int32)) []) _
  exact X16.returnOut hx Bd.returns (hb hby d2_26) hr
 ·show Qrm_si0 Z a1 a2 u1 u2 h0 n0 _ T16.heap _
  rw [e16]
  exact ⟨sb2, sk2, rfl, N16, (((((Keep.refl h0 [a1]).ext E2).wr W8 (Or.inl (List.mem_of_getElem? (i := 0) rfl))).ext E10).wr W16 (Or.inl (List.mem_of_getElem? (i := 0) rfl))), f18, f16, f19, f20⟩
 ·show CHr Z EL1 s.vm s.heap T16.vm T16.heap
  rw [hh, e16]
  exact CE
def Qrm_si (Z : State) (a1 : Addr) (a2 : Addr) (u1 : Value) (u2 : Value) (k2 : ClassId) (v2 : List Value) (h0 : Heap) (n0 : Nat) (v : Option Value) (h : Heap) (L : List Loc) : Prop := ∃ t : Addr, ∃ k : ClassId, v = none ∧ Fr n0 L ∧ Keep h0 h [a1] ∧ Exa Z h a1 kS1 ∧ Fld Z h a1 kS1 "coder" "B" (.int 0) ∧ Fld Z h a1 kS1 "value" "[B" (.ref t) ∧ Arv Z h t k .byte (0 : Int32) [] (.int 0)
theorem ef_rm_si (m : MethodId) (x0 : Addr) (x1 : Addr) : entryFrame m #[(.ref x0), (.ref x1)] 2 = mkF m 0 #[.val (.ref x0), .val (.ref x1)] [] := by first | rfl | (simp [entryFrame, mkF, argsToLocals, Value.category]; done)
theorem rm_si (l : Launch) (Z : State) (a0 : Array Value) (hw : HW Z a0) (ws : List Jvm.Cond) (a1 : Addr) (a2 : Addr) (u1 : Value) (u2 : Value) (k2 : ClassId) (v2 : List Value) (h0 : Heap) (n0 : Nat) (Z0 : n0 ≤ h0.size) (E1 : Exa Z h0 a1 kS1) (Fv1 : Fld Z h0 a1 kS1 "value" "[B" u1) (Fc1 : Fld Z h0 a1 kS1 "coder" "B" u2) (V2 : Arv Z h0 a2 k2 .char (0 : Int32) v2 (.int 0)) (g1 : n0 ≤ a1) :
  OwnW l Z h0 (⟨kS1, "<init>", "([C)V"⟩ : MethodName) (Jvm.Cond.code (⟨kS1, "<init>", "([C)V"⟩ : MethodName) jdk_42_method_3_code 2 none :: ws) (RM 2 4 8 29) #[(.ref a1), (.ref a2)] [a1] (Qrm_si Z a1 a2 u1 u2 k2 v2 h0 n0) := by
 refine MetFree.of_bodySF (plainFor_of_name pn_0) hisR ?_
 intro p e s m args below meth c s₁ Bd hml0 hP hK
 obtain ⟨rfl, hZ, hh, H0, sf⟩ := hP
 have hx := Bd.exec
 have hby := Bd.bytes
 have hml : c.maxLocals = 2 := hml0
 have hown : s.vm.findClass kS1 = some m.cls := findClass_of_methodNamed Bd.named
 have hnm := (name_of_methodNamed Bd.named Bd.method).1
 have X0 : Stand p l e (RM 2 4 8 29) (s.setVm s.vm) m #[(.ref a1), (.ref a2)] below meth c s₁ [] 0 0 := Stand.of_body Bd
 have hS0 : s.Since s.vm h0.size := (State.WarmedH.refl s).since _
 have C0 : CHr Z EL1 s.vm h0 s.vm h0 := CHr.refl H0
 have sf_a1 : Safe Z EL1 s.vm h0 a1 := sf _ (List.mem_of_getElem? (i := 0) rfl)
 have e0 : s₁.heap = h0 := by rw [← hh, Bd.state]; rfl
 have N0 := Fr.nil n0
 have pre0 : ∀ t, GO p e below s₁ (mkF m 0 #[.val (.ref a1), .val (.ref a2)] []) t → GO p e below s₁ (entryFrame m #[(.ref a1), (.ref a2)] 2) t := fun t k => castTop (ef_rm_si m a1 a2) k
 have lt_E1 := ltA E1.lt
 have lt_Fv1 := ltA Fv1.lt
 have lt_Fc1 := ltA Fc1.lt
 have lt_V2 := ltA V2.lt
 obtain ⟨cl21, Ar21, -, S21, M21, -, -⟩ := id V2
 -- pc 6: String.<init> by rm_si0
 obtain ⟨_, _, ⟨T22, L22, k22, n22⟩, -, X22w, hS22w, gr22, ⟨Lc22, hQ22, l22, y22, z22, C22w⟩, st22⟩ := X0.specialBackS hx (y := (⟨kS1, "<init>", "([CIILjava/lang/Void;)V"⟩ : MethodName)) rfl hown (mvT hZ (wd hw 7 rfl)) (mvT hZ (wd hw 8 rfl)) (mvT hZ (wd hw 10 rfl)) (by decide) (own_backS (W := 0) (rm_si0 l Z a0 hw [] a1 a2 u1 u2 h0 n0 (by omega) E1 Fv1 Fc1 (by first | assumption | decide | omega)) hZ (wd hw 10 rfl) (wd hw 3 rfl) (by decide) (by decide) (own_EW hw) C0.1 (sfS sf_a1 sf0) (allS (ltN (by omega)) all0)) (g := (mkF m 6 #[.val (.ref a1), .val (.ref a2)] [.null, (.int 0), (.int 0), (.ref a2), (.ref a1)])) rfl (by rw [hml]; rfl) (Steps.refl _) (a := a1) (argsL := [(.ref a2), (.int 0), (.int 0), .null]) (rest := []) (lenOf pd_0 rfl) rfl (wz rfl) (hb hby d1_6) (fun _ _ => ⟨rfl, e0, (by decide : 0 + 4 ≤ _), (by decide : 0 + 8 ≤ _)⟩)
 dsimp only [Pt.U, Pt.locs, Pt.cells, Pt.slots] at X22w hS22w gr22 l22 y22 z22 st22 hQ22 C22w
 subst l22 y22 z22
 obtain ⟨X22, hS22, hZ22, hown22⟩ := rebS hS0 (by rw [e0]; omega) X22w hS22w gr22 hZ hown
 obtain ⟨h22, e22⟩ : ∃ z, T22.heap = z := ⟨_, rfl⟩
 rw [e22] at hQ22
 obtain ⟨t_22, k_22, rfl, N22q, K22, p22_0, p22_1, p22_2, p22_3⟩ := hQ22
 have N22 := Fr.app N0 N22q
 rw [e22] at C22w hS22
 have hk22 : h22.size ≤ h22.size := Nat.le_refl _
 have C23 : CHr Z EL1 s.vm h0 T22.vm h22 := C0.trans (C22w)
 have sz22 : h0.size ≤ h22.size := K22.1
 have lt22_0 := ltA p22_0.lt
 have lt22_3 := ltA p22_3.lt
 obtain ⟨fs, hr, hrun, hended, hE⟩ := X22.leaveW hS22 (by rw [e22]; omega) (v := none) (fun _ => rfl)
 have CE := C23.trans (CHv.at X22 hZ22 (own_EW hw) C23.1)
 refine ⟨_, _, pre0 _ ?_, hrun, hended, _, _, rfl, ?_, ?_, ⟨hE.1, hE.2.1, hE.2.2.1, hE.2.2.2.mono (by decide) (by decide)⟩⟩
 ·show GO p e below s₁ (mkF m 0 #[.val (.ref a1), .val (.ref a2)] []) _
  refine XS.aloadN X0.here hx rfl (hb hby d1_0) rfl rfl ?_
  show GO p e below s₁ (mkF m 1 #[.val (.ref a1), .val (.ref a2)] [(.ref a1)]) _
  refine XS.aloadN X0.here hx rfl (hb hby d1_1) rfl rfl ?_
  show GO p e below s₁ (mkF m 2 #[.val (.ref a1), .val (.ref a2)] [(.ref a2), (.ref a1)]) _
  refine XS.iconst X0.here hx rfl (hb hby d1_2) ?_
  show GO p e below s₁ (mkF m 3 #[.val (.ref a1), .val (.ref a2)] [(.int 0), (.ref a2), (.ref a1)]) _
  refine XS.aloadN X0.here hx rfl (hb hby d1_3) rfl rfl ?_
  show GO p e below s₁ (mkF m 4 #[.val (.ref a1), .val (.ref a2)] [(.ref a2), (.int 0), (.ref a2), (.ref a1)]) _
  refine X0.arraylength hx (by rw [e0]; exact Ar21.1) (State.isArrayOf_alike hZ.alike Ar21.2.1) (g := (mkF m 4 #[.val (.ref a1), .val (.ref a2)] [(.ref a2), (.int 0), (.ref a2), (.ref a1)])) rfl rfl (hb hby d1_4) _ ?_
  rw [len_of S21 M21]
  show GO p e below s₁ (mkF m 5 #[.val (.ref a1), .val (.ref a2)] [(.int 0), (.int 0), (.ref a2), (.ref a1)]) _
  refine XS.aconstNull X0.here hx rfl (hb hby d1_5) ?_
  show GO p e below s₁ (mkF m 6 #[.val (.ref a1), .val (.ref a2)] [.null, (.int 0), (.int 0), (.ref a2), (.ref a1)]) _
  refine st22.trans ?_
  show GO p e below T22 (mkF m 9 #[.val (.ref a1), .val (.ref a2)] []) _
  exact X22.returnOut hx Bd.returns (hb hby d1_9) hr
 ·show Qrm_si Z a1 a2 u1 u2 k2 v2 h0 n0 _ T22.heap _
  rw [e22]
  exact ⟨t_22, k_22, rfl, N22, ((Keep.refl h0 [a1]).trans K22 (allS (P := fun x => x ∈ _ ∨ _) (Or.inl (List.mem_of_getElem? (i := 0) rfl)) all0)), p22_0, p22_1, p22_2, p22_3⟩
 ·show CHr Z EL1 s.vm s.heap T22.vm T22.heap
  rw [hh, e22]
  exact CE
def Qrm_cp1 (Z : State) (t1 : Addr) (k1 : ClassId) (xs0 : Int32) (h0 : Heap) (n0 : Nat) (v : Option Value) (h : Heap) (L : List Loc) : Prop := v = some (.int 1) ∧ Fr n0 L ∧ h = h0
theorem ef_rm_cp1 (m : MethodId) (x0 : Addr) (x1 : Int32) (x2 : Int32) : entryFrame m #[(.ref x0), (.int x1), (.int x2)] 5 = mkF m 0 (la1 x0 x1 x2) [] := by first | rfl | (simp [entryFrame, mkF, argsToLocals, Value.category]; done)
theorem rm_cp1 (l : Launch) (Z : State) (a0 : Array Value) (hw : HW Z a0) (ws : List Jvm.Cond) (t1 : Addr) (k1 : ClassId) (xs0 : Int32) (h0 : Heap) (n0 : Nat) (Z0 : n0 ≤ h0.size) (V1 : Arv Z h0 t1 k1 .byte (1 : Int32) [(.int xs0)] (.int 0)) (hg0 : ¬ xs0 < 0) :
  OwnM l Z h0 (⟨"java/lang/StringCoding", "countPositives", "([BII)I"⟩ : MethodName) (Jvm.Cond.code (⟨"java/lang/StringCoding", "countPositives", "([BII)I"⟩ : MethodName) jdk_123_method_3_code 5 (some .int) :: ws) (RM 0 0 0 0) #[(.ref t1), (.int 0), (.int 1)] (Qrm_cp1 Z t1 k1 xs0 h0 n0) := by
 refine MetFree.of_bodySF (plainFor_of_name pn_1) hisR ?_
 intro p e s m args below meth c s₁ Bd hml0 hP hK
 obtain ⟨rfl, hZ, hh⟩ := hP
 have hx := Bd.exec
 have hby := Bd.bytes
 have hml : c.maxLocals = 5 := hml0
 have hown : s.vm.findClass "java/lang/StringCoding" = some m.cls := findClass_of_methodNamed Bd.named
 have hnm := (name_of_methodNamed Bd.named Bd.method).1
 have X0 : Stand p l e (RM 0 0 0 0) s m #[(.ref t1), (.int 0), (.int 1)] below meth c s₁ [] 0 0 := Stand.of_body Bd
 have e0 : s₁.heap = h0 := by rw [← hh, Bd.state]; rfl
 have N0 := Fr.nil n0
 have pre0 : ∀ t, GO p e below s₁ (mkF m 0 (la1 t1 (0 : Int32) (1 : Int32)) []) t → GO p e below s₁ (entryFrame m #[(.ref t1), (.int 0), (.int 1)] 5) t := fun t k => castTop (ef_rm_cp1 m t1 ((0 : Int32)) ((1 : Int32))) k
 have lt_V1 := ltA V1.lt
 obtain ⟨cl24, Ar24, q24, S24, M24, H24, G24⟩ := id V1
 have hin24 : ¬ ((0 : Int32) < 0 ∨ cl24.slots.size ≤ ((0 : Int32)).toNatClampNeg) := inb_of S24 ⟨by decide, by decide⟩
 have hat24 : cl24.slots[((0 : Int32)).toNatClampNeg]? = some (.int xs0) := Has.at H24 hin24 rfl
 obtain ⟨fs, hr, hrun, hended, hW, hsame⟩ := X0.leave (v := some (.int 1)) (fun h => by rw [Bd.returns] at h; cases h)
 refine ⟨_, _, pre0 _ ?_, hrun, hended, _, _, rfl, ?_, ⟨_, rfl⟩, hW, hsame.mono (by decide) (by decide)⟩
 ·show GO p e below s₁ (mkF m 0 (la1 t1 (0 : Int32) (1 : Int32)) []) _
  refine XS.iloadN X0.here hx rfl (hb hby d29_0) rfl ?_
  show GO p e below s₁ (mkF m 1 (la1 t1 (0 : Int32) (1 : Int32)) [(.int 0)]) _
  refine XS.iloadN X0.here hx rfl (hb hby d29_1) rfl ?_
  show GO p e below s₁ (mkF m 2 (la1 t1 (0 : Int32) (1 : Int32)) [(.int 1), (.int 0)]) _
  refine XS.iadd X0.here hx rfl (hb hby d29_2) rfl ?_
  rw [show ((0 : Int32) + (1 : Int32)) = (1 : Int32) from by decide]
  show GO p e below s₁ (mkF m 3 (la1 t1 (0 : Int32) (1 : Int32)) [(.int 1)]) _
  refine XS.istoreN X0.here hx rfl (hb hby d29_3) rfl (l' := (la2 t1 (0 : Int32) (1 : Int32) (1 : Int32))) rfl ?_
  show GO p e below s₁ (mkF m 4 (la2 t1 (0 : Int32) (1 : Int32) (1 : Int32)) []) _
  refine XS.iloadN X0.here hx rfl (hb hby d29_4) rfl ?_
  show GO p e below s₁ (mkF m 5 (la2 t1 (0 : Int32) (1 : Int32) (1 : Int32)) [(.int 0)]) _
  refine XS.istore X0.here hx rfl (hb hby d29_5) rfl (l' := (la3 t1 (0 : Int32) (1 : Int32) (1 : Int32) (0 : Int32))) rfl ?_
  show GO p e below s₁ (mkF m 7 (la3 t1 (0 : Int32) (1 : Int32) (1 : Int32) (0 : Int32)) []) _
  refine XS.iload X0.here hx rfl (hb hby d29_7) rfl ?_
  show GO p e below s₁ (mkF m 9 (la3 t1 (0 : Int32) (1 : Int32) (1 : Int32) (0 : Int32)) [(.int 0)]) _
  refine XS.iloadN X0.here hx rfl (hb hby d29_9) rfl ?_
  show GO p e below s₁ (mkF m 10 (la3 t1 (0 : Int32) (1 : Int32) (1 : Int32) (0 : Int32)) [(.int 1), (.int 0)]) _
  refine XS.icmpNo X0.here hx rfl (hb hby d29_10) rfl (tlt ((by decide) : (0 : Int32) < (1 : Int32))).2.1 ?_
  show GO p e below s₁ (mkF m 13 (la3 t1 (0 : Int32) (1 : Int32) (1 : Int32) (0 : Int32)) []) _
  refine XS.aloadN X0.here hx rfl (hb hby d29_13) rfl rfl ?_
  show GO p e below s₁ (mkF m 14 (la3 t1 (0 : Int32) (1 : Int32) (1 : Int32) (0 : Int32)) [(.ref t1)]) _
  refine XS.iload X0.here hx rfl (hb hby d29_14) rfl ?_
  show GO p e below s₁ (mkF m 16 (la3 t1 (0 : Int32) (1 : Int32) (1 : Int32) (0 : Int32)) [(.int 0), (.ref t1)]) _
  refine X0.baloadBytes hx (j := (0 : Int32)) (v := (.int xs0)) (by rw [e0]; exact Ar24.1) (State.isArrayOf_alike hZ.alike Ar24.2.1) Ar24.2.2 hin24 hat24 (g := (mkF m 16 (la3 t1 (0 : Int32) (1 : Int32) (1 : Int32) (0 : Int32)) [(.int 0), (.ref t1)])) rfl rfl (hb hby d29_16) _ ?_
  show GO p e below s₁ (mkF m 17 (la3 t1 (0 : Int32) (1 : Int32) (1 : Int32) (0 : Int32)) [(.int xs0)]) _
  refine XS.ifYes X0.here hx rfl (pc0 := 17) (pc' := 25) rfl (hb hby d29_17) rfl ((if0 _ _).trans (flt (hg0 : ¬ (xs0 < (0 : Int32)))).2.1) (by decide) (by decide) ?_
  show GO p e below s₁ (mkF m 25 (la3 t1 (0 : Int32) (1 : Int32) (1 : Int32) (0 : Int32)) []) _
  refine XS.iinc X0.here hx rfl (hb hby d29_25) rfl (l' := (la3 t1 (0 : Int32) (1 : Int32) (1 : Int32) ((0 : Int32) + (1 : Int32)))) rfl ?_
  rw [show ((0 : Int32) + (1 : Int32)) = (1 : Int32) from by decide]
  show GO p e below s₁ (mkF m 28 (la3 t1 (0 : Int32) (1 : Int32) (1 : Int32) (1 : Int32)) []) _
  refine XS.goto X0.here hx rfl (pc0 := 28) (pc' := 7) rfl (hb hby d29_28) (by decide) (by decide) ?_
  show GO p e below s₁ (mkF m 7 (la3 t1 (0 : Int32) (1 : Int32) (1 : Int32) (1 : Int32)) []) _
  refine XS.iload X0.here hx rfl (hb hby d29_7) rfl ?_
  show GO p e below s₁ (mkF m 9 (la3 t1 (0 : Int32) (1 : Int32) (1 : Int32) (1 : Int32)) [(.int 1)]) _
  refine XS.iloadN X0.here hx rfl (hb hby d29_9) rfl ?_
  show GO p e below s₁ (mkF m 10 (la3 t1 (0 : Int32) (1 : Int32) (1 : Int32) (1 : Int32)) [(.int 1), (.int 1)]) _
  refine XS.icmpYes X0.here hx rfl (pc0 := 10) (pc' := 31) rfl (hb hby d29_10) rfl (flt ((by decide) : ¬ ((1 : Int32) < (1 : Int32)))).2.1 (by decide) (by decide) ?_
  show GO p e below s₁ (mkF m 31 (la3 t1 (0 : Int32) (1 : Int32) (1 : Int32) (1 : Int32)) []) _
  refine XS.iloadN X0.here hx rfl (hb hby d29_31) rfl ?_
  show GO p e below s₁ (mkF m 32 (la3 t1 (0 : Int32) (1 : Int32) (1 : Int32) (1 : Int32)) [(.int 1)]) _
  exact retI X0 hx Bd.returns (hb hby d29_32) hr
 ·show Qrm_cp1 Z t1 k1 xs0 h0 n0 _ s₁.heap _
  rw [e0]
  exact ⟨rfl, N0, rfl⟩
def Qrm_ea1 (Z : State) (t1 : Addr) (k1 : ClassId) (xs0 : Int32) (h0 : Heap) (n0 : Nat) (v : Option Value) (h : Heap) (L : List Loc) : Prop := ∃ t : Addr, ∃ k : ClassId, v = some (.ref t) ∧ Fr n0 L ∧ Keep h0 h [] ∧ Arv Z h t k .byte (1 : Int32) [(.int xs0)] (.int 0)
theorem ef_rm_ea1 (m : MethodId) (x0 : Int32) (x1 : Addr) : entryFrame m #[(.int x0), (.ref x1)] 7 = mkF m 0 (la4 x0 x1) [] := by first | rfl | (simp [entryFrame, mkF, argsToLocals, Value.category]; done)
theorem rm_ea1 (l : Launch) (Z : State) (a0 : Array Value) (hw : HW Z a0) (ws : List Jvm.Cond) (t1 : Addr) (k1 : ClassId) (xs0 : Int32) (h0 : Heap) (n0 : Nat) (Z0 : n0 ≤ h0.size) (E1 : Exa Z h0 t1 "[B") (V1 : Arv Z h0 t1 k1 .byte (1 : Int32) [(.int xs0)] (.int 0)) (hg0 : ¬ xs0 < 0) :
  OwnM l Z h0 (⟨kS1, "encodeASCII", "(B[B)[B"⟩ : MethodName) (Jvm.Cond.code (⟨kS1, "encodeASCII", "(B[B)[B"⟩ : MethodName) jdk_42_method_24_code 7 (some (.array .byte)) :: ws) (RM 1 1 1 16) #[(.int 0), (.ref t1)] (Qrm_ea1 Z t1 k1 xs0 h0 n0) := by
 refine MetFree.of_bodySF (plainFor_of_name pn_0) hisR ?_
 intro p e s m args below meth c s₁ Bd hml0 hP hK
 obtain ⟨rfl, hZ, hh⟩ := hP
 have hx := Bd.exec
 have hby := Bd.bytes
 have hml : c.maxLocals = 7 := hml0
 have hown : s.vm.findClass kS1 = some m.cls := findClass_of_methodNamed Bd.named
 have hnm := (name_of_methodNamed Bd.named Bd.method).1
 have X0 : Stand p l e (RM 1 1 1 16) s m #[(.int 0), (.ref t1)] below meth c s₁ [] 0 0 := Stand.of_body Bd
 have e0 : s₁.heap = h0 := by rw [← hh, Bd.state]; rfl
 have N0 := Fr.nil n0
 have pre0 : ∀ t, GO p e below s₁ (mkF m 0 (la4 (0 : Int32) t1) []) t → GO p e below s₁ (entryFrame m #[(.int 0), (.ref t1)] 7) t := fun t k => castTop (ef_rm_ea1 m ((0 : Int32)) t1) k
 have lt_E1 := ltA E1.lt
 have lt_V1 := ltA V1.lt
 obtain ⟨cl25, Ar25, -, S25, M25, -, -⟩ := id V1
 -- pc 8: StringCoding.countPositives by rm_cp1
 obtain ⟨_, _, ⟨T26, L26, k26, n26⟩, -, X26, ⟨Lc26, hQ26, l26, y26, z26⟩, st26⟩ := Jvm.LawKit.callS X0 hx (y := (⟨"java/lang/StringCoding", "countPositives", "([BII)I"⟩ : MethodName)) hown (mvT hZ (wd hw 157 rfl)) (mvT hZ (wd hw 158 rfl)) (mvT hZ (wd hw 159 rfl)) (mvT hZ (wd hw 160 rfl)) (by decide) (backOf (W := 0) (rm_cp1 l Z a0 hw [] t1 k1 xs0 h0 n0 (by omega) V1 (by first | assumption | decide | omega)) hZ (wd hw 160 rfl) (wd hw 159 rfl) (by decide) (by decide)) (g := (mkF m 8 (la4 (0 : Int32) t1) [(.int 1), (.int 0), (.ref t1)])) rfl (by rw [hml]; rfl) (argsL := [(.ref t1), (.int 0), (.int 1)]) (rest := []) (lenOf pd_1 rfl) rfl (wz rfl) (hb hby d28_8) (fun _ _ => ⟨rfl, e0, (by decide : 0 + 0 ≤ _), (by decide : 0 + 0 ≤ _)⟩)
 dsimp only [Pt.U, Pt.locs, Pt.cells, Pt.slots] at X26 l26 y26 z26 st26 hQ26
 subst l26 y26 z26
 obtain ⟨rfl, N26q, e26⟩ := hQ26
 have N26 := Fr.app N0 N26q
 obtain ⟨T27, h27, X27, e27, E27, A27, D27, st27⟩ := cloneH X26 hx hZ hown (wd hw 161 rfl) (wd hw 162 rfl) (wd hw 166 rfl) (wd hw 164 rfl) (wd hw 165 rfl) (wd hw 167 rfl) e26 (Arv.arh V1) E1 (g := (mkF m 13 (la5 (0 : Int32) t1 (1 : Int32)) [(.ref t1)])) rfl (by rw [hml]; rfl) rfl (hb hby d28_13) (by decide) (W := 0) (cap := 1) (wz rfl) (by decide) (by decide) (by decide) (by decide)
 obtain ⟨b27, g27⟩ : ∃ z, z = h0.size := ⟨_, rfl⟩
 rw [← g27] at A27 D27 st27
 have sz27 : h0.size ≤ h27.size := E27.1
 have V27 : Arv Z h27 b27 k1 .byte (1 : Int32) [(.int xs0)] (.int 0) := A27
 have lt27 := ltA V27.lt
 obtain ⟨T28, X28, e28, st28⟩ := castY X27 hx hZ hown (wd hw 168 rfl) e27 (Ins.self D27) (g := (mkF m 16 (la5 (0 : Int32) t1 (1 : Int32)) [(.ref b27)])) rfl rfl (hb hby d28_16)
 obtain ⟨cl29, Ar29, -, S29, M29, -, -⟩ := id V27
 obtain ⟨fs, hr, hrun, hended, hW, hsame⟩ := X28.leave (v := some (.ref b27)) (fun h => by rw [Bd.returns] at h; cases h)
 refine ⟨_, _, pre0 _ ?_, hrun, hended, _, _, rfl, ?_, ⟨_, rfl⟩, hW, hsame.mono (by decide) (by decide)⟩
 ·show GO p e below s₁ (mkF m 0 (la4 (0 : Int32) t1) []) _
  refine XS.iloadN X0.here hx rfl (hb hby d28_0) rfl ?_
  show GO p e below s₁ (mkF m 1 (la4 (0 : Int32) t1) [(.int 0)]) _
  refine XS.ifNo X0.here hx rfl (hb hby d28_1) rfl ((if0 _ _).trans (teq (rfl : (0 : Int32) = (0 : Int32))).2) ?_
  show GO p e below s₁ (mkF m 4 (la4 (0 : Int32) t1) []) _
  refine XS.aloadN X0.here hx rfl (hb hby d28_4) rfl rfl ?_
  show GO p e below s₁ (mkF m 5 (la4 (0 : Int32) t1) [(.ref t1)]) _
  refine XS.iconst X0.here hx rfl (hb hby d28_5) ?_
  show GO p e below s₁ (mkF m 6 (la4 (0 : Int32) t1) [(.int 0), (.ref t1)]) _
  refine XS.aloadN X0.here hx rfl (hb hby d28_6) rfl rfl ?_
  show GO p e below s₁ (mkF m 7 (la4 (0 : Int32) t1) [(.ref t1), (.int 0), (.ref t1)]) _
  refine X0.arraylength hx (by rw [e0]; exact Ar25.1) (State.isArrayOf_alike hZ.alike Ar25.2.1) (g := (mkF m 7 (la4 (0 : Int32) t1) [(.ref t1), (.int 0), (.ref t1)])) rfl rfl (hb hby d28_7) _ ?_
  rw [len_of S25 M25]
  show GO p e below s₁ (mkF m 8 (la4 (0 : Int32) t1) [(.int 1), (.int 0), (.ref t1)]) _
  refine st26 _ ?_
  show GO p e below T26 (mkF m 11 (la4 (0 : Int32) t1) [(.int 1)]) _
  refine XS.istoreN X26.here hx rfl (hb hby d28_11) rfl (l' := (la5 (0 : Int32) t1 (1 : Int32))) rfl ?_
  show GO p e below T26 (mkF m 12 (la5 (0 : Int32) t1 (1 : Int32)) []) _
  refine XS.aloadN X26.here hx rfl (hb hby d28_12) rfl rfl ?_
  show GO p e below T26 (mkF m 13 (la5 (0 : Int32) t1 (1 : Int32)) [(.ref t1)]) _
  refine st27 _ ?_
  show GO p e below T27 (mkF m 16 (la5 (0 : Int32) t1 (1 : Int32)) [(.ref b27)]) _
  refine st28 _ ?_
  show GO p e below T28 (mkF m 19 (la5 (0 : Int32) t1 (1 : Int32)) [(.ref b27)]) _
  refine XS.astoreN X28.here hx rfl (hb hby d28_19) rfl rfl (l' := (la6 (0 : Int32) t1 (1 : Int32) b27)) rfl ?_
  show GO p e below T28 (mkF m 20 (la6 (0 : Int32) t1 (1 : Int32) b27) []) _
  refine XS.iloadN X28.here hx rfl (hb hby d28_20) rfl ?_
  show GO p e below T28 (mkF m 21 (la6 (0 : Int32) t1 (1 : Int32) b27) [(.int 1)]) _
  refine XS.aloadN X28.here hx rfl (hb hby d28_21) rfl rfl ?_
  show GO p e below T28 (mkF m 22 (la6 (0 : Int32) t1 (1 : Int32) b27) [(.ref b27), (.int 1)]) _
  refine X28.arraylength hx (by rw [e28]; exact Ar29.1) (State.isArrayOf_alike hZ.alike Ar29.2.1) (g := (mkF m 22 (la6 (0 : Int32) t1 (1 : Int32) b27) [(.ref b27), (.int 1)])) rfl rfl (hb hby d28_22) _ ?_
  rw [len_of S29 M29]
  show GO p e below T28 (mkF m 23 (la6 (0 : Int32) t1 (1 : Int32) b27) [(.int 1), (.int 1)]) _
  refine XS.icmpYes X28.here hx rfl (pc0 := 23) (pc' := 31) rfl (hb hby d28_23) rfl (flt ((by decide) : ¬ ((1 : Int32) < (1 : Int32)))).2.1 (by decide) (by decide) ?_
  show GO p e below T28 (mkF m 31 (la6 (0 : Int32) t1 (1 : Int32) b27) []) _
  refine XS.aloadN X28.here hx rfl (hb hby d28_31) rfl rfl ?_
  show GO p e below T28 (mkF m 32 (la6 (0 : Int32) t1 (1 : Int32) b27) [(.ref b27)]) _
  exact retOut X28 hx Bd.returns rfl (Or.inr (Or.inr (Or.inr (Or.inr ⟨rfl, rfl, rfl⟩)))) (hb hby d28_32) hr
 ·show Qrm_ea1 Z t1 k1 xs0 h0 n0 _ T28.heap _
  rw [e28]
  exact ⟨b27, k1, rfl, N26, ((Keep.refl h0 []).ext E27), V27⟩
def Qrm_enc1 (Z : State) (q0 : Addr) (q1 : Addr) (q2 : Addr) (t1 : Addr) (k1 : ClassId) (xs0 : Int32) (h0 : Heap) (n0 : Nat) (v : Option Value) (h : Heap) (L : List Loc) : Prop := ∃ t : Addr, ∃ k : ClassId, v = some (.ref t) ∧ Fr n0 L ∧ Keep h0 h [] ∧ Arv Z h t k .byte (1 : Int32) [(.int xs0)] (.int 0)
theorem ef_rm_enc1 (m : MethodId) (x0 : Addr) (x1 : Int32) (x2 : Addr) : entryFrame m #[(.ref x0), (.int x1), (.ref x2)] 3 = mkF m 0 (la7 x0 x1 x2) [] := by first | rfl | (simp [entryFrame, mkF, argsToLocals, Value.category]; done)
theorem rm_enc1 (l : Launch) (Z : State) (a0 : Array Value) (hw : HW Z a0) (ws : List Jvm.Cond) (q0 : Addr) (q1 : Addr) (q2 : Addr) (t1 : Addr) (k1 : ClassId) (xs0 : Int32) (h0 : Heap) (n0 : Nat) (Z0 : n0 ≤ h0.size) (O0 : Old Z n0 h0) (E1 : Exa Z h0 t1 "[B") (V1 : Arv Z h0 t1 k1 .byte (1 : Int32) [(.int xs0)] (.int 0)) (HC : OwnC Z q0 q1 q2) (hg0 : ¬ xs0 < 0) :
  OwnM l Z h0 (⟨kS1, "encode", "(Ljava/nio/charset/Charset;B[B)[B"⟩ : MethodName) (Jvm.Cond.code (⟨kS1, "encode", "(Ljava/nio/charset/Charset;B[B)[B"⟩ : MethodName) jdk_42_method_18_code 3 (some (.array .byte)) :: ws) (RM 2 1 1 34) #[(.ref q0), (.int 0), (.ref t1)] (Qrm_enc1 Z q0 q1 q2 t1 k1 xs0 h0 n0) := by
 refine MetFree.of_bodySF (plainFor_of_name pn_0) hisR ?_
 intro p e s m args below meth c s₁ Bd hml0 hP hK
 obtain ⟨rfl, hZ, hh⟩ := hP
 have hx := Bd.exec
 have hby := Bd.bytes
 have hml : c.maxLocals = 3 := hml0
 have hown : s.vm.findClass kS1 = some m.cls := findClass_of_methodNamed Bd.named
 have hnm := (name_of_methodNamed Bd.named Bd.method).1
 have X0 : Stand p l e (RM 2 1 1 34) s m #[(.ref q0), (.int 0), (.ref t1)] below meth c s₁ [] 0 0 := Stand.of_body Bd
 have e0 : s₁.heap = h0 := by rw [← hh, Bd.state]; rfl
 have N0 := Fr.nil n0
 have pre0 : ∀ t, GO p e below s₁ (mkF m 0 (la7 q0 (0 : Int32) t1) []) t → GO p e below s₁ (entryFrame m #[(.ref q0), (.int 0), (.ref t1)] 3) t := fun t k => castTop (ef_rm_enc1 m q0 ((0 : Int32)) t1) k
 have lt_E1 := ltA E1.lt
 have lt_V1 := ltA V1.lt
 obtain ⟨SZq0, SZqa, SZq1, SZq2, nq1, nq2⟩ := HC
 have S30 : Sta Z h0 "sun/nio/cs/UTF_8" "INSTANCE" "Lsun/nio/cs/UTF_8;" (.ref q1) := SZq1.ext O0.2
 obtain ⟨T31, X31, e31, st31⟩ := getS2 X0 hx hZ hown (host := "") (Or.inl (wd hw 148 rfl)) Via.refl e0 S30 (g := (mkF m 1 (la7 q0 (0 : Int32) t1) [(.ref q0)])) rfl (hb hby d27_1)
 have S32 : Sta Z h0 "sun/nio/cs/ISO_8859_1" "INSTANCE" "Lsun/nio/cs/ISO_8859_1;" (.ref q2) := SZq2.ext O0.2
 obtain ⟨T33, X33, e33, st33⟩ := getS2 X31 hx hZ hown (host := "") (Or.inl (wd hw 150 rfl)) Via.refl e31 S32 (g := (mkF m 15 (la7 q0 (0 : Int32) t1) [(.ref q0)])) rfl (hb hby d27_15)
 have S34 : Sta Z h0 "sun/nio/cs/US_ASCII" "INSTANCE" "Lsun/nio/cs/US_ASCII;" (.ref q0) := SZqa.ext O0.2
 obtain ⟨T35, X35, e35, st35⟩ := getS2 X33 hx hZ hown (host := "") (Or.inl (wd hw 152 rfl)) Via.refl e33 S34 (g := (mkF m 28 (la7 q0 (0 : Int32) t1) [(.ref q0)])) rfl (hb hby d27_28)
 -- pc 36: String.encodeASCII by rm_ea1
 obtain ⟨_, _, ⟨T36, L36, k36, n36⟩, -, X36, ⟨Lc36, hQ36, l36, y36, z36⟩, st36⟩ := Jvm.LawKit.callS X35 hx (y := (⟨kS1, "encodeASCII", "(B[B)[B"⟩ : MethodName)) hown (mvT hZ (wd hw 154 rfl)) (mvT hZ (wd hw 155 rfl)) (mvT hZ (wd hw 3 rfl)) (mvT hZ (wd hw 156 rfl)) (by decide) (backOf (W := 0) (rm_ea1 l Z a0 hw [] t1 k1 xs0 h0 n0 (by omega) E1 V1 (by first | assumption | decide | omega)) hZ (wd hw 156 rfl) (wd hw 3 rfl) (by decide) (by decide)) (g := (mkF m 36 (la7 q0 (0 : Int32) t1) [(.ref t1), (.int 0)])) rfl (by rw [hml]; rfl) (argsL := [(.int 0), (.ref t1)]) (rest := []) (lenOf pd_2 rfl) rfl (wz rfl) (hb hby d27_36) (fun _ _ => ⟨rfl, e35, (by decide : 0 + 1 ≤ _), (by decide : 0 + 1 ≤ _)⟩)
 dsimp only [Pt.U, Pt.locs, Pt.cells, Pt.slots] at X36 l36 y36 z36 st36 hQ36
 subst l36 y36 z36
 obtain ⟨h36, e36⟩ : ∃ z, T36.heap = z := ⟨_, rfl⟩
 rw [e36] at hQ36
 obtain ⟨t_36, k_36, rfl, N36q, K36, p36_0⟩ := hQ36
 have N36 := Fr.app N0 N36q
 have sz36 : h0.size ≤ h36.size := K36.1
 have lt36_0 := ltA p36_0.lt
 obtain ⟨fs, hr, hrun, hended, hW, hsame⟩ := X36.leave (v := some (.ref t_36)) (fun h => by rw [Bd.returns] at h; cases h)
 refine ⟨_, _, pre0 _ ?_, hrun, hended, _, _, rfl, ?_, ⟨_, rfl⟩, hW, hsame.mono (by decide) (by decide)⟩
 ·show GO p e below s₁ (mkF m 0 (la7 q0 (0 : Int32) t1) []) _
  refine XS.aloadN X0.here hx rfl (hb hby d27_0) rfl rfl ?_
  show GO p e below s₁ (mkF m 1 (la7 q0 (0 : Int32) t1) [(.ref q0)]) _
  refine st31 _ ?_
  show GO p e below T31 (mkF m 4 (la7 q0 (0 : Int32) t1) [(.ref q1), (.ref q0)]) _
  refine Jvm.RoadKit.acmp (g := (mkF m 4 (la7 q0 (0 : Int32) t1) [(.ref q1), (.ref q0)])) X31 hx rfl rfl rfl (pc0 := 4) (pc' := 14) (same := false) rfl (hb hby d27_4) rfl (decide_eq_false fun q => absurd (Value.ref.inj q) nq1) (by decide) (by decide) ?_
  show GO p e below T31 (mkF m 14 (la7 q0 (0 : Int32) t1) []) _
  refine XS.aloadN X31.here hx rfl (hb hby d27_14) rfl rfl ?_
  show GO p e below T31 (mkF m 15 (la7 q0 (0 : Int32) t1) [(.ref q0)]) _
  refine st33 _ ?_
  show GO p e below T33 (mkF m 18 (la7 q0 (0 : Int32) t1) [(.ref q2), (.ref q0)]) _
  refine Jvm.RoadKit.acmp (g := (mkF m 18 (la7 q0 (0 : Int32) t1) [(.ref q2), (.ref q0)])) X33 hx rfl rfl rfl (pc0 := 18) (pc' := 27) (same := false) rfl (hb hby d27_18) rfl (decide_eq_false fun q => absurd (Value.ref.inj q) nq2) (by decide) (by decide) ?_
  show GO p e below T33 (mkF m 27 (la7 q0 (0 : Int32) t1) []) _
  refine XS.aloadN X33.here hx rfl (hb hby d27_27) rfl rfl ?_
  show GO p e below T33 (mkF m 28 (la7 q0 (0 : Int32) t1) [(.ref q0)]) _
  refine st35 _ ?_
  show GO p e below T35 (mkF m 31 (la7 q0 (0 : Int32) t1) [(.ref q0), (.ref q0)]) _
  refine Jvm.RoadKit.acmp (g := (mkF m 31 (la7 q0 (0 : Int32) t1) [(.ref q0), (.ref q0)])) X35 hx rfl rfl rfl (pc0 := 31) (pc' := 34) (same := true) rfl (hb hby d27_31) rfl (decide_eq_true rfl) (by decide) (by decide) ?_
  show GO p e below T35 (mkF m 34 (la7 q0 (0 : Int32) t1) []) _
  refine XS.iloadN X35.here hx rfl (hb hby d27_34) rfl ?_
  show GO p e below T35 (mkF m 35 (la7 q0 (0 : Int32) t1) [(.int 0)]) _
  refine XS.aloadN X35.here hx rfl (hb hby d27_35) rfl rfl ?_
  show GO p e below T35 (mkF m 36 (la7 q0 (0 : Int32) t1) [(.ref t1), (.int 0)]) _
  refine st36 _ ?_
  show GO p e below T36 (mkF m 39 (la7 q0 (0 : Int32) t1) [(.ref t_36)]) _
  exact retOut X36 hx Bd.returns rfl (Or.inr (Or.inr (Or.inr (Or.inr ⟨rfl, rfl, rfl⟩)))) (hb hby d27_39) hr
 ·show Qrm_enc1 Z q0 q1 q2 t1 k1 xs0 h0 n0 _ T36.heap _
  rw [e36]
  exact ⟨t_36, k_36, rfl, N36, ((Keep.refl h0 []).trans K36 all0), p36_0⟩
def Qrm_sc (Z : State) (x1 : Addr) (z0 : Int32) (h0 : Heap) (n0 : Nat) (v : Option Value) (h : Heap) (L : List Loc) : Prop := v = some (.int 0) ∧ Fr n0 L ∧ h = h0
theorem ef_rm_sc (m : MethodId) (x0 : Addr) : entryFrame m #[(.ref x0)] 1 = mkF m 0 #[.val (.ref x0)] [] := by first | rfl | (simp [entryFrame, mkF, argsToLocals, Value.category]; done)
theorem rm_sc (l : Launch) (Z : State) (a0 : Array Value) (hw : HW Z a0) (ws : List Jvm.Cond) (x1 : Addr) (z0 : Int32) (h0 : Heap) (n0 : Nat) (Z0 : n0 ≤ h0.size) (O0 : Old Z n0 h0) (Fc : Fld Z h0 x1 kS1 "coder" "B" (.int 0)) (SZc : Sta Z Z.heap kS1 "COMPACT_STRINGS" "Z" (.int z0)) (hz0 : ¬ z0 = 0) :
  OwnM l Z h0 (⟨kS1, "coder", "()B"⟩ : MethodName) (Jvm.Cond.code (⟨kS1, "coder", "()B"⟩ : MethodName) jdk_42_method_152_code 1 (some .byte) :: ws) (RM 0 0 0 0) #[(.ref x1)] (Qrm_sc Z x1 z0 h0 n0) := by
 refine MetFree.of_bodySF (plainFor_of_name pn_0) hisR ?_
 intro p e s m args below meth c s₁ Bd hml0 hP hK
 obtain ⟨rfl, hZ, hh⟩ := hP
 have hx := Bd.exec
 have hby := Bd.bytes
 have hml : c.maxLocals = 1 := hml0
 have hown : s.vm.findClass kS1 = some m.cls := findClass_of_methodNamed Bd.named
 have hnm := (name_of_methodNamed Bd.named Bd.method).1
 have X0 : Stand p l e (RM 0 0 0 0) s m #[(.ref x1)] below meth c s₁ [] 0 0 := Stand.of_body Bd
 have e0 : s₁.heap = h0 := by rw [← hh, Bd.state]; rfl
 have N0 := Fr.nil n0
 have pre0 : ∀ t, GO p e below s₁ (mkF m 0 #[.val (.ref x1)] []) t → GO p e below s₁ (entryFrame m #[(.ref x1)] 1) t := fun t k => castTop (ef_rm_sc m x1) k
 have lt_Fc := ltA Fc.lt
 have S37 : Sta Z h0 kS1 "COMPACT_STRINGS" "Z" (.int z0) := SZc.ext O0.2
 obtain ⟨T38, X38, e38, st38⟩ := getS2 X0 hx hZ hown (host := "") (Or.inl (wd hw 64 rfl)) Via.refl e0 S37 (g := (mkF m 0 #[.val (.ref x1)] [])) rfl (hb hby d10_0)
 obtain ⟨T39, X39, e39, st39⟩ := getF X38 hx hZ hown (host := "") (Or.inl (wd hw 21 rfl)) Via.refl e38 Fc (g := (mkF m 7 #[.val (.ref x1)] [(.ref x1)])) rfl rfl (hb hby d10_7)
 obtain ⟨fs, hr, hrun, hended, hW, hsame⟩ := X39.leave (v := some (.int (nar .byte (0 : Int32)))) (fun h => by rw [Bd.returns] at h; cases h)
 refine ⟨_, _, pre0 _ ?_, hrun, hended, _, _, rfl, ?_, ⟨_, rfl⟩, hW, hsame.mono (by decide) (by decide)⟩
 ·show GO p e below s₁ (mkF m 0 #[.val (.ref x1)] []) _
  refine st38 _ ?_
  show GO p e below T38 (mkF m 3 #[.val (.ref x1)] [(.int z0)]) _
  refine XS.ifNo X38.here hx rfl (hb hby d10_3) rfl ((if0 _ _).trans (feq ((by first | assumption | decide) : ¬ (z0 = (0 : Int32)))).1) ?_
  show GO p e below T38 (mkF m 6 #[.val (.ref x1)] []) _
  refine XS.aloadN X38.here hx rfl (hb hby d10_6) rfl rfl ?_
  show GO p e below T38 (mkF m 7 #[.val (.ref x1)] [(.ref x1)]) _
  refine st39 _ ?_
  show GO p e below T39 (mkF m 10 #[.val (.ref x1)] [(.int 0)]) _
  refine XS.goto X39.here hx rfl (pc0 := 10) (pc' := 14) rfl (hb hby d10_10) (by decide) (by decide) ?_
  show GO p e below T39 (mkF m 14 #[.val (.ref x1)] [(.int 0)]) _
  exact retN X39 hx (t := .byte) Bd.returns (by simp) (hb hby d10_14) hr
 ·show Qrm_sc Z x1 z0 h0 n0 _ T39.heap _
  rw [e39]
  exact ⟨rfl, N0, rfl⟩
def Qrm_gbc1 (Z : State) (q0 : Addr) (q1 : Addr) (q2 : Addr) (x1 : Addr) (t1 : Addr) (k1 : ClassId) (xs0 : Int32) (z0 : Int32) (h0 : Heap) (n0 : Nat) (v : Option Value) (h : Heap) (L : List Loc) : Prop := ∃ t : Addr, ∃ k : ClassId, v = some (.ref t) ∧ Fr n0 L ∧ Keep h0 h [] ∧ Arv Z h t k .byte (1 : Int32) [(.int xs0)] (.int 0)
theorem ef_rm_gbc1 (m : MethodId) (x0 : Addr) (x1 : Addr) : entryFrame m #[(.ref x0), (.ref x1)] 2 = mkF m 0 #[.val (.ref x0), .val (.ref x1)] [] := by first | rfl | (simp [entryFrame, mkF, argsToLocals, Value.category]; done)
theorem rm_gbc1 (l : Launch) (Z : State) (a0 : Array Value) (hw : HW Z a0) (ws : List Jvm.Cond) (q0 : Addr) (q1 : Addr) (q2 : Addr) (x1 : Addr) (t1 : Addr) (k1 : ClassId) (xs0 : Int32) (z0 : Int32) (h0 : Heap) (n0 : Nat) (Z0 : n0 ≤ h0.size) (O0 : Old Z n0 h0) (Esx1 : Exa Z h0 x1 kS1) (Fcx1 : Fld Z h0 x1 kS1 "coder" "B" (.int 0)) (Fvx1 : Fld Z h0 x1 kS1 "value" "[B" (.ref t1)) (Vsx1 : Arv Z h0 t1 k1 .byte (1 : Int32) [(.int xs0)] (.int 0)) (E1 : Exa Z h0 t1 "[B") (SZc : Sta Z Z.heap kS1 "COMPACT_STRINGS" "Z" (.int z0)) (hz0 : ¬ z0 = 0) (HC : OwnC Z q0 q1 q2) (hg0 : ¬ xs0 < 0) :
  OwnM l Z h0 (⟨kS1, "getBytes", "(Ljava/nio/charset/Charset;)[B"⟩ : MethodName) (Jvm.Cond.code (⟨kS1, "getBytes", "(Ljava/nio/charset/Charset;)[B"⟩ : MethodName) jdk_42_method_64_code 2 (some (.array .byte)) :: ws) (RM 3 1 1 48) #[(.ref x1), (.ref q0)] (Qrm_gbc1 Z q0 q1 q2 x1 t1 k1 xs0 z0 h0 n0) := by
 refine MetFree.of_bodySF (plainFor_of_name pn_0) hisR ?_
 intro p e s m args below meth c s₁ Bd hml0 hP hK
 obtain ⟨rfl, hZ, hh⟩ := hP
 have hx := Bd.exec
 have hby := Bd.bytes
 have hml : c.maxLocals = 2 := hml0
 have hown : s.vm.findClass kS1 = some m.cls := findClass_of_methodNamed Bd.named
 have hnm := (name_of_methodNamed Bd.named Bd.method).1
 have X0 : Stand p l e (RM 3 1 1 48) s m #[(.ref x1), (.ref q0)] below meth c s₁ [] 0 0 := Stand.of_body Bd
 have e0 : s₁.heap = h0 := by rw [← hh, Bd.state]; rfl
 have N0 := Fr.nil n0
 have pre0 : ∀ t, GO p e below s₁ (mkF m 0 #[.val (.ref x1), .val (.ref q0)] []) t → GO p e below s₁ (entryFrame m #[(.ref x1), (.ref q0)] 2) t := fun t k => castTop (ef_rm_gbc1 m x1 q0) k
 have lt_Esx1 := ltA Esx1.lt
 have lt_Fcx1 := ltA Fcx1.lt
 have lt_Fvx1 := ltA Fvx1.lt
 have lt_Vsx1 := ltA Vsx1.lt
 have lt_E1 := ltA E1.lt
 -- pc 14: String.coder by rm_sc
 obtain ⟨cq40, kq40, q40a, q40b, q40c⟩ := isOf hZ e0 Esx1
 obtain ⟨_, _, ⟨T40, L40, k40, n40⟩, -, X40, ⟨Lc40, hQ40, l40, y40, z40⟩, st40⟩ := X0.virtualBack hx (y := (⟨kS1, "coder", "()B"⟩ : MethodName)) (z := (⟨kS1, "coder", "()B"⟩ : MethodName)) hown (mvT hZ (wd hw 59 rfl)) (mvT hZ (wd hw 60 rfl)) (notFace_of_selects (args := #[]) (mvT hZ (wd hw 62 rfl))) (mvT hZ (wd hw 62 rfl)) (mvT hZ (wd hw 61 rfl)) (by decide) (backOf (W := 1) (rm_sc l Z a0 hw [] x1 z0 h0 n0 (by omega) O0 Fcx1 (by first | assumption | decide | omega) (by first | assumption | decide | omega)) hZ (wd hw 63 rfl) (wd hw 3 rfl) (by decide) (by decide)) q40a q40c (g := (mkF m 14 #[.val (.ref x1), .val (.ref q0)] [(.ref x1), (.ref q0)])) rfl (by rw [hml]; rfl) (Steps.refl _) (argsL := []) (rest := [(.ref q0)]) (lenOf pd_3 rfl) rfl (wz rfl) (hb hby d26_14) (fun _ _ => ⟨rfl, e0, (by decide : 0 + 0 ≤ _), (by decide : 0 + 0 ≤ _)⟩)
 dsimp only [Pt.U, Pt.locs, Pt.cells, Pt.slots] at X40 l40 y40 z40 st40 hQ40
 subst l40 y40 z40
 obtain ⟨rfl, N40q, e40⟩ := hQ40
 have N40 := Fr.app N0 N40q
 obtain ⟨T41, X41, e41, st41⟩ := getF X40 hx hZ hown (host := "") (Or.inl (wd hw 20 rfl)) Via.refl e40 Fvx1 (g := (mkF m 18 #[.val (.ref x1), .val (.ref q0)] [(.ref x1), (.int 0), (.ref q0)])) rfl rfl (hb hby d26_18)
 -- pc 21: String.encode by rm_enc1
 obtain ⟨_, _, ⟨T42, L42, k42, n42⟩, -, X42, ⟨Lc42, hQ42, l42, y42, z42⟩, st42⟩ := Jvm.LawKit.callS X41 hx (y := (⟨kS1, "encode", "(Ljava/nio/charset/Charset;B[B)[B"⟩ : MethodName)) hown (mvT hZ (wd hw 145 rfl)) (mvT hZ (wd hw 146 rfl)) (mvT hZ (wd hw 3 rfl)) (mvT hZ (wd hw 147 rfl)) (by decide) (backOf (W := 0) (rm_enc1 l Z a0 hw [] q0 q1 q2 t1 k1 xs0 h0 n0 (by omega) O0 E1 Vsx1 (by first | assumption | decide | omega) (by first | assumption | decide | omega)) hZ (wd hw 147 rfl) (wd hw 3 rfl) (by decide) (by decide)) (g := (mkF m 21 #[.val (.ref x1), .val (.ref q0)] [(.ref t1), (.int 0), (.ref q0)])) rfl (by rw [hml]; rfl) (argsL := [(.ref q0), (.int 0), (.ref t1)]) (rest := []) (lenOf pd_4 rfl) rfl (wz rfl) (hb hby d26_21) (fun _ _ => ⟨rfl, e41, (by decide : 0 + 1 ≤ _), (by decide : 0 + 1 ≤ _)⟩)
 dsimp only [Pt.U, Pt.locs, Pt.cells, Pt.slots] at X42 l42 y42 z42 st42 hQ42
 subst l42 y42 z42
 obtain ⟨h42, e42⟩ : ∃ z, T42.heap = z := ⟨_, rfl⟩
 rw [e42] at hQ42
 obtain ⟨t_42, k_42, rfl, N42q, K42, p42_0⟩ := hQ42
 have N42 := Fr.app N40 N42q
 have sz42 : h0.size ≤ h42.size := K42.1
 have lt42_0 := ltA p42_0.lt
 obtain ⟨fs, hr, hrun, hended, hW, hsame⟩ := X42.leave (v := some (.ref t_42)) (fun h => by rw [Bd.returns] at h; cases h)
 refine ⟨_, _, pre0 _ ?_, hrun, hended, _, _, rfl, ?_, ⟨_, rfl⟩, hW, hsame.mono (by decide) (by decide)⟩
 ·show GO p e below s₁ (mkF m 0 #[.val (.ref x1), .val (.ref q0)] []) _
  refine XS.aloadN X0.here hx rfl (hb hby d26_0) rfl rfl ?_
  show GO p e below s₁ (mkF m 1 #[.val (.ref x1), .val (.ref q0)] [(.ref q0)]) _
  refine XS.ifnonnullYes X0.here hx rfl (pc0 := 1) (pc' := 12) rfl (hb hby d26_1) rfl (by decide) (by decide) ?_
  show GO p e below s₁ (mkF m 12 #[.val (.ref x1), .val (.ref q0)] []) _
  refine XS.aloadN X0.here hx rfl (hb hby d26_12) rfl rfl ?_
  show GO p e below s₁ (mkF m 13 #[.val (.ref x1), .val (.ref q0)] [(.ref q0)]) _
  refine XS.aloadN X0.here hx rfl (hb hby d26_13) rfl rfl ?_
  show GO p e below s₁ (mkF m 14 #[.val (.ref x1), .val (.ref q0)] [(.ref x1), (.ref q0)]) _
  refine st40.trans ?_
  show GO p e below T40 (mkF m 17 #[.val (.ref x1), .val (.ref q0)] [(.int 0), (.ref q0)]) _
  refine XS.aloadN X40.here hx rfl (hb hby d26_17) rfl rfl ?_
  show GO p e below T40 (mkF m 18 #[.val (.ref x1), .val (.ref q0)] [(.ref x1), (.int 0), (.ref q0)]) _
  refine st41 _ ?_
  show GO p e below T41 (mkF m 21 #[.val (.ref x1), .val (.ref q0)] [(.ref t1), (.int 0), (.ref q0)]) _
  refine st42 _ ?_
  show GO p e below T42 (mkF m 24 #[.val (.ref x1), .val (.ref q0)] [(.ref t_42)]) _
  exact retOut X42 hx Bd.returns rfl (Or.inr (Or.inr (Or.inr (Or.inr ⟨rfl, rfl, rfl⟩)))) (hb hby d26_24) hr
 ·show Qrm_gbc1 Z q0 q1 q2 x1 t1 k1 xs0 z0 h0 n0 _ T42.heap _
  rw [e42]
  exact ⟨t_42, k_42, rfl, N42, ((Keep.refl h0 []).trans K42 all0), p42_0⟩
def Qrm_ai (Z : State) (a1 : Addr) (u1 : Value) (u2 : Value) (z0 : Int32) (h0 : Heap) (n0 : Nat) (v : Option Value) (h : Heap) (L : List Loc) : Prop := ∃ d : Addr, ∃ k : ClassId, v = none ∧ Fr n0 L ∧ Keep h0 h [a1] ∧ Exa Z h a1 kS2 ∧ Fld Z h a1 kS0 "value" "[B" (.ref d) ∧ Fld Z h a1 kS0 "coder" "B" (.int 0) ∧ Fld Z h a1 kS0 "count" "I" (.int 0) ∧ Arv Z h d k .byte (16 : Int32) [(.int 0), (.int 0), (.int 0), (.int 0), (.int 0), (.int 0), (.int 0), (.int 0), (.int 0), (.int 0), (.int 0), (.int 0), (.int 0), (.int 0), (.int 0), (.int 0)] (.int 0) ∧ h0.size ≤ d
theorem ef_rm_ai (m : MethodId) (x0 : Addr) (x1 : Int32) : entryFrame m #[(.ref x0), (.int x1)] 2 = mkF m 0 #[.val (.ref x0), .val (.int x1)] [] := by first | rfl | (simp [entryFrame, mkF, argsToLocals, Value.category]; done)
theorem rm_ai (l : Launch) (Z : State) (a0 : Array Value) (hw : HW Z a0) (ws : List Jvm.Cond) (a1 : Addr) (u1 : Value) (u2 : Value) (z0 : Int32) (h0 : Heap) (n0 : Nat) (Z0 : n0 ≤ h0.size) (O0 : Old Z n0 h0) (Eb : Exa Z h0 a1 kS2) (Fbv : Fld Z h0 a1 kS0 "value" "[B" u1) (Fbc : Fld Z h0 a1 kS0 "coder" "B" u2) (Fbn : Fld Z h0 a1 kS0 "count" "I" (.int 0)) (SZc : Sta Z Z.heap kS1 "COMPACT_STRINGS" "Z" (.int z0)) (hz0 : ¬ z0 = 0) (ga : n0 ≤ a1) :
  OwnM l Z h0 (⟨kS0, "<init>", "(I)V"⟩ : MethodName) (Jvm.Cond.code (⟨kS0, "<init>", "(I)V"⟩ : MethodName) jdk_68_method_2_code 2 none :: ws) (RM 1 1 16 12) #[(.ref a1), (.int 16)] (Qrm_ai Z a1 u1 u2 z0 h0 n0) := by
 refine MetFree.of_bodySF (plainFor_of_name pn_2) hisR ?_
 intro p e s m args below meth c s₁ Bd hml0 hP hK
 obtain ⟨rfl, hZ, hh⟩ := hP
 have hx := Bd.exec
 have hby := Bd.bytes
 have hml : c.maxLocals = 2 := hml0
 have hown : s.vm.findClass kS0 = some m.cls := findClass_of_methodNamed Bd.named
 have hnm := (name_of_methodNamed Bd.named Bd.method).1
 have X0 : Stand p l e (RM 1 1 16 12) s m #[(.ref a1), (.int 16)] below meth c s₁ [] 0 0 := Stand.of_body Bd
 have e0 : s₁.heap = h0 := by rw [← hh, Bd.state]; rfl
 have N0 := Fr.nil n0
 have pre0 : ∀ t, GO p e below s₁ (mkF m 0 #[.val (.ref a1), .val (.int 16)] []) t → GO p e below s₁ (entryFrame m #[(.ref a1), (.int 16)] 2) t := fun t k => castTop (ef_rm_ai m a1 ((16 : Int32))) k
 have lt_Eb := ltA Eb.lt
 have lt_Fbv := ltA Fbv.lt
 have lt_Fbc := ltA Fbc.lt
 have lt_Fbn := ltA Fbn.lt
 obtain ⟨T43, X43, e43, st43⟩ := initO X0 hx hZ hown (wd hw 38 rfl) (wd hw 12 rfl) (wd hw 13 rfl) e0 (g := (mkF m 1 #[.val (.ref a1), .val (.int 16)] [(.ref a1)])) rfl (by rw [hml]; rfl) rfl (hb hby d6_1) (by decide) (W := 0) (wz rfl) (by decide)
 have S44 : Sta Z h0 kS1 "COMPACT_STRINGS" "Z" (.int z0) := SZc.ext O0.2
 obtain ⟨T45, X45, e45, st45⟩ := getS2 X43 hx hZ hown (host := "") (Or.inl (wd hw 39 rfl)) Via.refl e43 S44 (g := (mkF m 4 #[.val (.ref a1), .val (.int 16)] [])) rfl (hb hby d6_4)
 obtain ⟨T46, h46, k46, X46, e46, E46, A46, st46⟩ := newP X45 hx hZ (wd hw 15 rfl) e45 (g := (mkF m 12 #[.val (.ref a1), .val (.int 16)] [(.int 16), (.ref a1)])) rfl (hb hby d6_12) rfl (by decide) (cap := 16) (by decide) (by decide) (by decide) (by decide)
 obtain ⟨b46, g46⟩ : ∃ z, z = h0.size := ⟨_, rfl⟩
 rw [← g46] at A46 st46
 have sz46 : h0.size ≤ h46.size := E46.1
 have lt46 := ltA A46.lt
 have V46 : Arv Z h46 b46 k46 .byte (16 : Int32) [(.int 0), (.int 0), (.int 0), (.int 0), (.int 0), (.int 0), (.int 0), (.int 0), (.int 0), (.int 0), (.int 0), (.int 0), (.int 0), (.int 0), (.int 0), (.int 0)] (.int 0) := (Arv.new A46 (by decide)).pad (pad_rep [] (.int 0) 16)
 have f47 : Fld Z h46 a1 kS0 "value" "[B" u1 := (Fbv.ext E46)
 have f48 : Exa Z h46 a1 kS2 := (Eb.ext E46)
 obtain ⟨T49, h49, X49, e49, W49, st49⟩ := putF X46 hx hZ hown (host := "") (Or.inl (wd hw 40 rfl)) Via.refl e46 f47 f48 (Or.inl (wd hw 41 rfl)) (wd hw 27 rfl) (ty := (.array .byte)) (by decide) rfl rfl (g := (mkF m 14 #[.val (.ref a1), .val (.int 16)] [(.ref b46), (.ref a1)])) rfl rfl (hb hby d6_14)
 have N49 := Fr.snoc X49 N0 (by omega : n0 ≤ a1)
 have sz49 : h46.size ≤ h49.size := Nat.le_of_eq W49.size.symm
 have f49 : Fld Z h49 a1 kS0 "value" "[B" (.ref b46) := f47.same W49
 have f50 : Fld Z h49 a1 kS0 "coder" "B" u2 := ((Fbc.ext E46).other W49 (Or.inr (slot_ne (Or.inl (wd hw 43 rfl)) (Or.inl (wd hw 41 rfl)) (by decide) (t := .byte) (t' := (.array .byte)) (by decide) (by decide))))
 have f51 : Exa Z h49 a1 kS2 := (f48.wr W49)
 obtain ⟨T52, h52, X52, e52, W52, st52⟩ := putFN X49 hx hZ hown (wd hw 42 rfl) Via.refl e49 f50 f51 (Or.inl (wd hw 43 rfl)) (wd hw 27 rfl) (ty := .byte) (v' := (.int 0)) (by decide) rfl rfl (g := (mkF m 19 #[.val (.ref a1), .val (.int 16)] [(.int 0), (.ref a1)])) rfl rfl (hb hby d6_19)
 have N52 := Fr.snoc X52 N49 (by omega : n0 ≤ a1)
 have sz52 : h49.size ≤ h52.size := Nat.le_of_eq W52.size.symm
 have f52 : Fld Z h52 a1 kS0 "coder" "B" (.int 0) := f50.same W52
 have f53 : Exa Z h52 a1 kS2 := (f51.wr W52)
 have f54 : Fld Z h52 a1 kS0 "value" "[B" (.ref b46) := (f49.other W52 (Or.inr (slot_ne (Or.inl (wd hw 41 rfl)) (Or.inl (wd hw 43 rfl)) (by decide) (t := (.array .byte)) (t' := .byte) (by decide) (by decide))))
 have f55 : Fld Z h52 a1 kS0 "count" "I" (.int 0) := (((Fbn.ext E46).other W49 (Or.inr (slot_ne (Or.inl (wd hw 66 rfl)) (Or.inl (wd hw 41 rfl)) (by decide) (t := .int) (t' := (.array .byte)) (by decide) (by decide)))).other W52 (Or.inr (slot_ne (Or.inl (wd hw 66 rfl)) (Or.inl (wd hw 43 rfl)) (by decide) (t := .int) (t' := .byte) (by decide) (by decide))))
 have f56 : Arv Z h52 b46 k46 .byte (16 : Int32) [(.int 0), (.int 0), (.int 0), (.int 0), (.int 0), (.int 0), (.int 0), (.int 0), (.int 0), (.int 0), (.int 0), (.int 0), (.int 0), (.int 0), (.int 0), (.int 0)] (.int 0) := ((V46.other W49 (neN (by omega))).other W52 (neN (by omega)))
 obtain ⟨fs, hr, hrun, hended, hW, hsame⟩ := X52.leave (v := none) (fun _ => rfl)
 refine ⟨_, _, pre0 _ ?_, hrun, hended, _, _, rfl, ?_, ⟨_, rfl⟩, hW, hsame.mono (by decide) (by decide)⟩
 ·show GO p e below s₁ (mkF m 0 #[.val (.ref a1), .val (.int 16)] []) _
  refine XS.aloadN X0.here hx rfl (hb hby d6_0) rfl rfl ?_
  show GO p e below s₁ (mkF m 1 #[.val (.ref a1), .val (.int 16)] [(.ref a1)]) _
  refine st43 _ ?_
  show GO p e below T43 (mkF m 4 #[.val (.ref a1), .val (.int 16)] []) _
  refine st45 _ ?_
  show GO p e below T45 (mkF m 7 #[.val (.ref a1), .val (.int 16)] [(.int z0)]) _
  refine XS.ifNo X45.here hx rfl (hb hby d6_7) rfl ((if0 _ _).trans (feq ((by first | assumption | decide) : ¬ (z0 = (0 : Int32)))).1) ?_
  show GO p e below T45 (mkF m 10 #[.val (.ref a1), .val (.int 16)] []) _
  refine XS.aloadN X45.here hx rfl (hb hby d6_10) rfl rfl ?_
  show GO p e below T45 (mkF m 11 #[.val (.ref a1), .val (.int 16)] [(.ref a1)]) _
  refine XS.iloadN X45.here hx rfl (hb hby d6_11) rfl ?_
  show GO p e below T45 (mkF m 12 #[.val (.ref a1), .val (.int 16)] [(.int 16), (.ref a1)]) _
  refine st46 _ ?_
  show GO p e below T46 (mkF m 14 #[.val (.ref a1), .val (.int 16)] [(.ref b46), (.ref a1)]) _
  refine st49 _ ?_
  show GO p e below T49 (mkF m 17 #[.val (.ref a1), .val (.int 16)] []) _
  refine XS.aloadN X49.here hx rfl (hb hby d6_17) rfl rfl ?_
  show GO p e below T49 (mkF m 18 #[.val (.ref a1), .val (.int 16)] [(.ref a1)]) _
  refine XS.iconst X49.here hx rfl (hb hby d6_18) ?_
  show GO p e below T49 (mkF m 19 #[.val (.ref a1), .val (.int 16)] [(.int 0), (.ref a1)]) _
  refine st52 _ ?_
  show GO p e below T52 (mkF m 22 #[.val (.ref a1), .val (.int 16)] []) _
  refine XS.goto X52.here hx rfl (pc0 := 22) (pc' := 38) rfl (hb hby d6_22) (by decide) (by decide) ?_
  show GO p e below T52 (mkF m 38 #[.val (.ref a1), .val (.int 16)] []) _
  exact X52.returnOut hx Bd.returns (hb hby d6_38) hr
 ·show Qrm_ai Z a1 u1 u2 z0 h0 n0 _ T52.heap _
  rw [e52]
  exact ⟨b46, k46, rfl, N52, ((((Keep.refl h0 [a1]).ext E46).wr W49 (Or.inl (List.mem_of_getElem? (i := 0) rfl))).wr W52 (Or.inl (List.mem_of_getElem? (i := 0) rfl))), f53, f54, f52, f55, f56, (by omega)⟩
def Qrm_bi (Z : State) (a1 : Addr) (u1 : Value) (u2 : Value) (z0 : Int32) (h0 : Heap) (n0 : Nat) (v : Option Value) (h : Heap) (L : List Loc) : Prop := ∃ d : Addr, ∃ k : ClassId, v = none ∧ Fr n0 L ∧ Keep h0 h [a1] ∧ Exa Z h a1 kS2 ∧ Fld Z h a1 kS0 "value" "[B" (.ref d) ∧ Fld Z h a1 kS0 "coder" "B" (.int 0) ∧ Fld Z h a1 kS0 "count" "I" (.int 0) ∧ Arv Z h d k .byte (16 : Int32) [(.int 0), (.int 0), (.int 0), (.int 0), (.int 0), (.int 0), (.int 0), (.int 0), (.int 0), (.int 0), (.int 0), (.int 0), (.int 0), (.int 0), (.int 0), (.int 0)] (.int 0) ∧ h0.size ≤ d
theorem ef_rm_bi (m : MethodId) (x0 : Addr) : entryFrame m #[(.ref x0)] 1 = mkF m 0 #[.val (.ref x0)] [] := by first | rfl | (simp [entryFrame, mkF, argsToLocals, Value.category]; done)
theorem rm_bi (l : Launch) (Z : State) (a0 : Array Value) (hw : HW Z a0) (ws : List Jvm.Cond) (a1 : Addr) (u1 : Value) (u2 : Value) (z0 : Int32) (h0 : Heap) (n0 : Nat) (Z0 : n0 ≤ h0.size) (O0 : Old Z n0 h0) (Eb : Exa Z h0 a1 kS2) (Fbv : Fld Z h0 a1 kS0 "value" "[B" u1) (Fbc : Fld Z h0 a1 kS0 "coder" "B" u2) (Fbn : Fld Z h0 a1 kS0 "count" "I" (.int 0)) (SZc : Sta Z Z.heap kS1 "COMPACT_STRINGS" "Z" (.int z0)) (hz0 : ¬ z0 = 0) (ga : n0 ≤ a1) :
  OwnM l Z h0 (⟨kS2, "<init>", "()V"⟩ : MethodName) (Jvm.Cond.code (⟨kS2, "<init>", "()V"⟩ : MethodName) jdk_67_method_1_code 1 none :: ws) (RM 2 1 16 25) #[(.ref a1)] (Qrm_bi Z a1 u1 u2 z0 h0 n0) := by
 refine MetFree.of_bodySF (plainFor_of_name pn_3) hisR ?_
 intro p e s m args below meth c s₁ Bd hml0 hP hK
 obtain ⟨rfl, hZ, hh⟩ := hP
 have hx := Bd.exec
 have hby := Bd.bytes
 have hml : c.maxLocals = 1 := hml0
 have hown : s.vm.findClass kS2 = some m.cls := findClass_of_methodNamed Bd.named
 have hnm := (name_of_methodNamed Bd.named Bd.method).1
 have X0 : Stand p l e (RM 2 1 16 25) s m #[(.ref a1)] below meth c s₁ [] 0 0 := Stand.of_body Bd
 have e0 : s₁.heap = h0 := by rw [← hh, Bd.state]; rfl
 have N0 := Fr.nil n0
 have pre0 : ∀ t, GO p e below s₁ (mkF m 0 #[.val (.ref a1)] []) t → GO p e below s₁ (entryFrame m #[(.ref a1)] 1) t := fun t k => castTop (ef_rm_bi m a1) k
 have lt_Eb := ltA Eb.lt
 have lt_Fbv := ltA Fbv.lt
 have lt_Fbc := ltA Fbc.lt
 have lt_Fbn := ltA Fbn.lt
 -- pc 3: AbstractStringBuilder.<init> by rm_ai
 obtain ⟨_, _, ⟨T57, L57, k57, n57⟩, -, X57, ⟨Lc57, hQ57, l57, y57, z57⟩, st57⟩ := X0.specialBack hx (y := (⟨kS0, "<init>", "(I)V"⟩ : MethodName)) rfl hown (mvT hZ (wd hw 32 rfl)) (mvT hZ (wd hw 33 rfl)) (mvT hZ (wd hw 37 rfl)) (by decide) (backOf (W := 0) (rm_ai l Z a0 hw [] a1 u1 u2 z0 h0 n0 (by omega) O0 Eb Fbv Fbc Fbn (by first | assumption | decide | omega) (by first | assumption | decide | omega) (by first | assumption | decide | omega)) hZ (wd hw 37 rfl) (wd hw 36 rfl) (by decide) (by decide)) (g := (mkF m 3 #[.val (.ref a1)] [(.int 16), (.ref a1)])) rfl (by rw [hml]; rfl) (Steps.refl _) (a := a1) (argsL := [(.int 16)]) (rest := []) (lenOf pd_5 rfl) rfl (wz rfl) (hb hby d5_3) (fun _ _ => ⟨rfl, e0, (by decide : 0 + 1 ≤ _), (by decide : 0 + 16 ≤ _)⟩)
 dsimp only [Pt.U, Pt.locs, Pt.cells, Pt.slots] at X57 l57 y57 z57 st57 hQ57
 subst l57 y57 z57
 obtain ⟨h57, e57⟩ : ∃ z, T57.heap = z := ⟨_, rfl⟩
 rw [e57] at hQ57
 obtain ⟨d_57, k_57, rfl, N57q, K57, p57_0, p57_1, p57_2, p57_3, p57_4, r57_0⟩ := hQ57
 have N57 := Fr.app N0 N57q
 have sz57 : h0.size ≤ h57.size := K57.1
 have lt57_0 := ltA p57_0.lt
 have lt57_4 := ltA p57_4.lt
 obtain ⟨fs, hr, hrun, hended, hW, hsame⟩ := X57.leave (v := none) (fun _ => rfl)
 refine ⟨_, _, pre0 _ ?_, hrun, hended, _, _, rfl, ?_, ⟨_, rfl⟩, hW, hsame.mono (by decide) (by decide)⟩
 ·show GO p e below s₁ (mkF m 0 #[.val (.ref a1)] []) _
  refine XS.aloadN X0.here hx rfl (hb hby d5_0) rfl rfl ?_
  show GO p e below s₁ (mkF m 1 #[.val (.ref a1)] [(.ref a1)]) _
  refine XS.bipush X0.here hx rfl (hb hby d5_1) ?_
  show GO p e below s₁ (mkF m 3 #[.val (.ref a1)] [(.int 16), (.ref a1)]) _
  refine st57.trans ?_
  show GO p e below T57 (mkF m 6 #[.val (.ref a1)] []) _
  exact X57.returnOut hx Bd.returns (hb hby d5_6) hr
 ·show Qrm_bi Z a1 u1 u2 z0 h0 n0 _ T57.heap _
  rw [e57]
  exact ⟨d_57, k_57, rfl, N57, ((Keep.refl h0 [a1]).trans K57 (allS (P := fun x => x ∈ _ ∨ _) (Or.inl (List.mem_of_getElem? (i := 0) rfl)) all0)), p57_0, p57_1, p57_2, p57_3, p57_4, r57_0⟩
def Qrm_sl0 (Z : State) (x1 : Addr) (t1 : Addr) (k1 : ClassId) (z0 : Int32) (h0 : Heap) (n0 : Nat) (v : Option Value) (h : Heap) (L : List Loc) : Prop := v = some (.int 0) ∧ Fr n0 L ∧ h = h0
theorem ef_rm_sl0 (m : MethodId) (x0 : Addr) : entryFrame m #[(.ref x0)] 1 = mkF m 0 #[.val (.ref x0)] [] := by first | rfl | (simp [entryFrame, mkF, argsToLocals, Value.category]; done)
theorem rm_sl0 (l : Launch) (Z : State) (a0 : Array Value) (hw : HW Z a0) (ws : List Jvm.Cond) (x1 : Addr) (t1 : Addr) (k1 : ClassId) (z0 : Int32) (h0 : Heap) (n0 : Nat) (Z0 : n0 ≤ h0.size) (O0 : Old Z n0 h0) (Esx1 : Exa Z h0 x1 kS1) (Fcx1 : Fld Z h0 x1 kS1 "coder" "B" (.int 0)) (Fvx1 : Fld Z h0 x1 kS1 "value" "[B" (.ref t1)) (Vsx1 : Arv Z h0 t1 k1 .byte (0 : Int32) [] (.int 0)) (SZc : Sta Z Z.heap kS1 "COMPACT_STRINGS" "Z" (.int z0)) (hz0 : ¬ z0 = 0) :
  OwnM l Z h0 (⟨kS1, "length", "()I"⟩ : MethodName) (Jvm.Cond.code (⟨kS1, "length", "()I"⟩ : MethodName) jdk_42_method_54_code 1 (some .int) :: ws) (RM 1 0 0 13) #[(.ref x1)] (Qrm_sl0 Z x1 t1 k1 z0 h0 n0) := by
 refine MetFree.of_bodySF (plainFor_of_name pn_0) hisR ?_
 intro p e s m args below meth c s₁ Bd hml0 hP hK
 obtain ⟨rfl, hZ, hh⟩ := hP
 have hx := Bd.exec
 have hby := Bd.bytes
 have hml : c.maxLocals = 1 := hml0
 have hown : s.vm.findClass kS1 = some m.cls := findClass_of_methodNamed Bd.named
 have hnm := (name_of_methodNamed Bd.named Bd.method).1
 have X0 : Stand p l e (RM 1 0 0 13) s m #[(.ref x1)] below meth c s₁ [] 0 0 := Stand.of_body Bd
 have e0 : s₁.heap = h0 := by rw [← hh, Bd.state]; rfl
 have N0 := Fr.nil n0
 have pre0 : ∀ t, GO p e below s₁ (mkF m 0 #[.val (.ref x1)] []) t → GO p e below s₁ (entryFrame m #[(.ref x1)] 1) t := fun t k => castTop (ef_rm_sl0 m x1) k
 have lt_Esx1 := ltA Esx1.lt
 have lt_Fcx1 := ltA Fcx1.lt
 have lt_Fvx1 := ltA Fvx1.lt
 have lt_Vsx1 := ltA Vsx1.lt
 obtain ⟨T58, X58, e58, st58⟩ := getF X0 hx hZ hown (host := "") (Or.inl (wd hw 20 rfl)) Via.refl e0 Fvx1 (g := (mkF m 1 #[.val (.ref x1)] [(.ref x1)])) rfl rfl (hb hby d9_1)
 obtain ⟨cl59, Ar59, -, S59, M59, -, -⟩ := id Vsx1
 -- pc 6: String.coder by rm_sc
 obtain ⟨cq60, kq60, q60a, q60b, q60c⟩ := isOf hZ e58 Esx1
 obtain ⟨_, _, ⟨T60, L60, k60, n60⟩, -, X60, ⟨Lc60, hQ60, l60, y60, z60⟩, st60⟩ := X58.virtualBack hx (y := (⟨kS1, "coder", "()B"⟩ : MethodName)) (z := (⟨kS1, "coder", "()B"⟩ : MethodName)) hown (mvT hZ (wd hw 59 rfl)) (mvT hZ (wd hw 60 rfl)) (notFace_of_selects (args := #[]) (mvT hZ (wd hw 62 rfl))) (mvT hZ (wd hw 62 rfl)) (mvT hZ (wd hw 61 rfl)) (by decide) (backOf (W := 1) (rm_sc l Z a0 hw [] x1 z0 h0 n0 (by omega) O0 Fcx1 (by first | assumption | decide | omega) (by first | assumption | decide | omega)) hZ (wd hw 63 rfl) (wd hw 3 rfl) (by decide) (by decide)) q60a q60c (g := (mkF m 6 #[.val (.ref x1)] [(.ref x1), (.int 0)])) rfl (by rw [hml]; rfl) (Steps.refl _) (argsL := []) (rest := [(.int 0)]) (lenOf pd_3 rfl) rfl (wz rfl) (hb hby d9_6) (fun _ _ => ⟨rfl, e58, (by decide : 0 + 0 ≤ _), (by decide : 0 + 0 ≤ _)⟩)
 dsimp only [Pt.U, Pt.locs, Pt.cells, Pt.slots] at X60 l60 y60 z60 st60 hQ60
 subst l60 y60 z60
 obtain ⟨rfl, N60q, e60⟩ := hQ60
 have N60 := Fr.app N0 N60q
 obtain ⟨fs, hr, hrun, hended, hW, hsame⟩ := X60.leave (v := some (.int 0)) (fun h => by rw [Bd.returns] at h; cases h)
 refine ⟨_, _, pre0 _ ?_, hrun, hended, _, _, rfl, ?_, ⟨_, rfl⟩, hW, hsame.mono (by decide) (by decide)⟩
 ·show GO p e below s₁ (mkF m 0 #[.val (.ref x1)] []) _
  refine XS.aloadN X0.here hx rfl (hb hby d9_0) rfl rfl ?_
  show GO p e below s₁ (mkF m 1 #[.val (.ref x1)] [(.ref x1)]) _
  refine st58 _ ?_
  show GO p e below T58 (mkF m 4 #[.val (.ref x1)] [(.ref t1)]) _
  refine X58.arraylength hx (by rw [e58]; exact Ar59.1) (State.isArrayOf_alike hZ.alike Ar59.2.1) (g := (mkF m 4 #[.val (.ref x1)] [(.ref t1)])) rfl rfl (hb hby d9_4) _ ?_
  rw [len_of S59 M59]
  show GO p e below T58 (mkF m 5 #[.val (.ref x1)] [(.int 0)]) _
  refine XS.aloadN X58.here hx rfl (hb hby d9_5) rfl rfl ?_
  show GO p e below T58 (mkF m 6 #[.val (.ref x1)] [(.ref x1), (.int 0)]) _
  refine st60.trans ?_
  show GO p e below T60 (mkF m 9 #[.val (.ref x1)] [(.int 0), (.int 0)]) _
  refine XS.ishr X60.here hx rfl (hb hby d9_9) rfl ?_
  rw [show ((0 : Int32) >>> ((0 : Int32) &&& 31)) = (0 : Int32) from by decide]
  show GO p e below T60 (mkF m 10 #[.val (.ref x1)] [(.int 0)]) _
  exact retI X60 hx Bd.returns (hb hby d9_10) hr
 ·show Qrm_sl0 Z x1 t1 k1 z0 h0 n0 _ T60.heap _
  rw [e60]
  exact ⟨rfl, N60, rfl⟩
def Qrm_en_16 (Z : State) (a1 : Addr) (d1 : Addr) (kd : ClassId) (vd : List Value) (p1 : Int32) (h0 : Heap) (n0 : Nat) (v : Option Value) (h : Heap) (L : List Loc) : Prop := v = none ∧ Fr n0 L ∧ h = h0
theorem ef_rm_en_16 (m : MethodId) (x0 : Addr) (x1 : Int32) : entryFrame m #[(.ref x0), (.int x1)] 3 = mkF m 0 (la8 x0 x1) [] := by first | rfl | (simp [entryFrame, mkF, argsToLocals, Value.category]; done)
theorem rm_en_16 (l : Launch) (Z : State) (a0 : Array Value) (hw : HW Z a0) (ws : List Jvm.Cond) (a1 : Addr) (d1 : Addr) (kd : ClassId) (vd : List Value) (p1 : Int32) (h0 : Heap) (n0 : Nat) (Z0 : n0 ≤ h0.size) (Fbv : Fld Z h0 a1 kS0 "value" "[B" (.ref d1)) (Fbc : Fld Z h0 a1 kS0 "coder" "B" (.int 0)) (Vb : Arv Z h0 d1 kd .byte (16 : Int32) vd (.int 0)) (he : ¬ (0 : Int32) < (p1 - (16 : Int32))) :
  OwnM l Z h0 (⟨kS0, "ensureCapacityInternal", "(I)V"⟩ : MethodName) (Jvm.Cond.code (⟨kS0, "ensureCapacityInternal", "(I)V"⟩ : MethodName) jdk_68_method_9_code 3 none :: ws) (RM 0 0 0 0) #[(.ref a1), (.int p1)] (Qrm_en_16 Z a1 d1 kd vd p1 h0 n0) := by
 refine MetFree.of_bodySF (plainFor_of_name pn_2) hisR ?_
 intro p e s m args below meth c s₁ Bd hml0 hP hK
 obtain ⟨rfl, hZ, hh⟩ := hP
 have hx := Bd.exec
 have hby := Bd.bytes
 have hml : c.maxLocals = 3 := hml0
 have hown : s.vm.findClass kS0 = some m.cls := findClass_of_methodNamed Bd.named
 have hnm := (name_of_methodNamed Bd.named Bd.method).1
 have X0 : Stand p l e (RM 0 0 0 0) s m #[(.ref a1), (.int p1)] below meth c s₁ [] 0 0 := Stand.of_body Bd
 have e0 : s₁.heap = h0 := by rw [← hh, Bd.state]; rfl
 have N0 := Fr.nil n0
 have pre0 : ∀ t, GO p e below s₁ (mkF m 0 (la8 a1 p1) []) t → GO p e below s₁ (entryFrame m #[(.ref a1), (.int p1)] 3) t := fun t k => castTop (ef_rm_en_16 m a1 p1) k
 have lt_Fbv := ltA Fbv.lt
 have lt_Fbc := ltA Fbc.lt
 have lt_Vb := ltA Vb.lt
 obtain ⟨T61, X61, e61, st61⟩ := getF X0 hx hZ hown (host := "") (Or.inl (wd hw 40 rfl)) Via.refl e0 Fbv (g := (mkF m 1 (la8 a1 p1) [(.ref a1)])) rfl rfl (hb hby d11_1)
 obtain ⟨cl62, Ar62, -, S62, M62, -, -⟩ := id Vb
 obtain ⟨T63, X63, e63, st63⟩ := getF X61 hx hZ hown (host := "") (Or.inl (wd hw 42 rfl)) Via.refl e61 Fbc (g := (mkF m 6 (la8 a1 p1) [(.ref a1), (.int 16)])) rfl rfl (hb hby d11_6)
 obtain ⟨fs, hr, hrun, hended, hW, hsame⟩ := X63.leave (v := none) (fun _ => rfl)
 refine ⟨_, _, pre0 _ ?_, hrun, hended, _, _, rfl, ?_, ⟨_, rfl⟩, hW, hsame.mono (by decide) (by decide)⟩
 ·show GO p e below s₁ (mkF m 0 (la8 a1 p1) []) _
  refine XS.aloadN X0.here hx rfl (hb hby d11_0) rfl rfl ?_
  show GO p e below s₁ (mkF m 1 (la8 a1 p1) [(.ref a1)]) _
  refine st61 _ ?_
  show GO p e below T61 (mkF m 4 (la8 a1 p1) [(.ref d1)]) _
  refine X61.arraylength hx (by rw [e61]; exact Ar62.1) (State.isArrayOf_alike hZ.alike Ar62.2.1) (g := (mkF m 4 (la8 a1 p1) [(.ref d1)])) rfl rfl (hb hby d11_4) _ ?_
  rw [len_of S62 M62]
  show GO p e below T61 (mkF m 5 (la8 a1 p1) [(.int 16)]) _
  refine XS.aloadN X61.here hx rfl (hb hby d11_5) rfl rfl ?_
  show GO p e below T61 (mkF m 6 (la8 a1 p1) [(.ref a1), (.int 16)]) _
  refine st63 _ ?_
  show GO p e below T63 (mkF m 9 (la8 a1 p1) [(.int 0), (.int 16)]) _
  refine XS.ishr X63.here hx rfl (hb hby d11_9) rfl ?_
  rw [show ((16 : Int32) >>> ((0 : Int32) &&& 31)) = (16 : Int32) from by decide]
  show GO p e below T63 (mkF m 10 (la8 a1 p1) [(.int 16)]) _
  refine XS.istoreN X63.here hx rfl (hb hby d11_10) rfl (l' := (la9 a1 p1 (16 : Int32))) rfl ?_
  show GO p e below T63 (mkF m 11 (la9 a1 p1 (16 : Int32)) []) _
  refine XS.iloadN X63.here hx rfl (hb hby d11_11) rfl ?_
  show GO p e below T63 (mkF m 12 (la9 a1 p1 (16 : Int32)) [(.int p1)]) _
  refine XS.iloadN X63.here hx rfl (hb hby d11_12) rfl ?_
  show GO p e below T63 (mkF m 13 (la9 a1 p1 (16 : Int32)) [(.int 16), (.int p1)]) _
  refine XS.isub X63.here hx rfl (hb hby d11_13) rfl ?_
  show GO p e below T63 (mkF m 14 (la9 a1 p1 (16 : Int32)) [(.int (p1 - (16 : Int32)))]) _
  refine XS.ifYes X63.here hx rfl (pc0 := 14) (pc' := 38) rfl (hb hby d11_14) rfl ((if0 _ _).trans (flt (he : ¬ ((0 : Int32) < (p1 - (16 : Int32))))).2.2.2) (by decide) (by decide) ?_
  show GO p e below T63 (mkF m 38 (la9 a1 p1 (16 : Int32)) []) _
  exact X63.returnOut hx Bd.returns (hb hby d11_38) hr
 ·show Qrm_en_16 Z a1 d1 kd vd p1 h0 n0 _ T63.heap _
  rw [e63]
  exact ⟨rfl, N0, rfl⟩
def Qrm_inf (Z : State) (a1 : Addr) (x1 : Addr) (z0 : Int32) (h0 : Heap) (n0 : Nat) (v : Option Value) (h : Heap) (L : List Loc) : Prop := v = none ∧ Fr n0 L ∧ h = h0
theorem ef_rm_inf (m : MethodId) (x0 : Addr) (x1 : Addr) : entryFrame m #[(.ref x0), (.ref x1)] 2 = mkF m 0 #[.val (.ref x0), .val (.ref x1)] [] := by first | rfl | (simp [entryFrame, mkF, argsToLocals, Value.category]; done)
theorem rm_inf (l : Launch) (Z : State) (a0 : Array Value) (hw : HW Z a0) (ws : List Jvm.Cond) (a1 : Addr) (x1 : Addr) (z0 : Int32) (h0 : Heap) (n0 : Nat) (Z0 : n0 ≤ h0.size) (O0 : Old Z n0 h0) (Fbc : Fld Z h0 a1 kS0 "coder" "B" (.int 0)) (Es : Exa Z h0 x1 kS1) (Fc : Fld Z h0 x1 kS1 "coder" "B" (.int 0)) (SZc : Sta Z Z.heap kS1 "COMPACT_STRINGS" "Z" (.int z0)) (hz0 : ¬ z0 = 0) :
  OwnM l Z h0 (⟨kS0, "inflateIfNeededFor", "(Ljava/lang/String;)V"⟩ : MethodName) (Jvm.Cond.code (⟨kS0, "inflateIfNeededFor", "(Ljava/lang/String;)V"⟩ : MethodName) jdk_68_method_71_code 2 none :: ws) (RM 1 0 0 13) #[(.ref a1), (.ref x1)] (Qrm_inf Z a1 x1 z0 h0 n0) := by
 refine MetFree.of_bodySF (plainFor_of_name pn_2) hisR ?_
 intro p e s m args below meth c s₁ Bd hml0 hP hK
 obtain ⟨rfl, hZ, hh⟩ := hP
 have hx := Bd.exec
 have hby := Bd.bytes
 have hml : c.maxLocals = 2 := hml0
 have hown : s.vm.findClass kS0 = some m.cls := findClass_of_methodNamed Bd.named
 have hnm := (name_of_methodNamed Bd.named Bd.method).1
 have X0 : Stand p l e (RM 1 0 0 13) s m #[(.ref a1), (.ref x1)] below meth c s₁ [] 0 0 := Stand.of_body Bd
 have e0 : s₁.heap = h0 := by rw [← hh, Bd.state]; rfl
 have N0 := Fr.nil n0
 have pre0 : ∀ t, GO p e below s₁ (mkF m 0 #[.val (.ref a1), .val (.ref x1)] []) t → GO p e below s₁ (entryFrame m #[(.ref a1), (.ref x1)] 2) t := fun t k => castTop (ef_rm_inf m a1 x1) k
 have lt_Fbc := ltA Fbc.lt
 have lt_Es := ltA Es.lt
 have lt_Fc := ltA Fc.lt
 have S64 : Sta Z h0 kS1 "COMPACT_STRINGS" "Z" (.int z0) := SZc.ext O0.2
 obtain ⟨T65, X65, e65, st65⟩ := getS2 X0 hx hZ hown (host := "") (Or.inl (wd hw 39 rfl)) Via.refl e0 S64 (g := (mkF m 0 #[.val (.ref a1), .val (.ref x1)] [])) rfl (hb hby d13_0)
 obtain ⟨T66, X66, e66, st66⟩ := getF X65 hx hZ hown (host := "") (Or.inl (wd hw 42 rfl)) Via.refl e65 Fbc (g := (mkF m 7 #[.val (.ref a1), .val (.ref x1)] [(.ref a1)])) rfl rfl (hb hby d13_7)
 -- pc 11: String.coder by rm_sc
 obtain ⟨cq67, kq67, q67a, q67b, q67c⟩ := isOf hZ e66 Es
 obtain ⟨_, _, ⟨T67, L67, k67, n67⟩, -, X67, ⟨Lc67, hQ67, l67, y67, z67⟩, st67⟩ := X66.virtualBack hx (y := (⟨kS1, "coder", "()B"⟩ : MethodName)) (z := (⟨kS1, "coder", "()B"⟩ : MethodName)) hown (mvT hZ (wd hw 82 rfl)) (mvT hZ (wd hw 60 rfl)) (notFace_of_selects (args := #[]) (mvT hZ (wd hw 62 rfl))) (mvT hZ (wd hw 62 rfl)) (mvT hZ (wd hw 61 rfl)) (by decide) (backOf (W := 1) (rm_sc l Z a0 hw [] x1 z0 h0 n0 (by omega) O0 Fc (by first | assumption | decide | omega) (by first | assumption | decide | omega)) hZ (wd hw 63 rfl) (wd hw 3 rfl) (by decide) (by decide)) q67a q67c (g := (mkF m 11 #[.val (.ref a1), .val (.ref x1)] [(.ref x1), (.int 0)])) rfl (by rw [hml]; rfl) (Steps.refl _) (argsL := []) (rest := [(.int 0)]) (lenOf pd_3 rfl) rfl (wz rfl) (hb hby d13_11) (fun _ _ => ⟨rfl, e66, (by decide : 0 + 0 ≤ _), (by decide : 0 + 0 ≤ _)⟩)
 dsimp only [Pt.U, Pt.locs, Pt.cells, Pt.slots] at X67 l67 y67 z67 st67 hQ67
 subst l67 y67 z67
 obtain ⟨rfl, N67q, e67⟩ := hQ67
 have N67 := Fr.app N0 N67q
 obtain ⟨fs, hr, hrun, hended, hW, hsame⟩ := X67.leave (v := none) (fun _ => rfl)
 refine ⟨_, _, pre0 _ ?_, hrun, hended, _, _, rfl, ?_, ⟨_, rfl⟩, hW, hsame.mono (by decide) (by decide)⟩
 ·show GO p e below s₁ (mkF m 0 #[.val (.ref a1), .val (.ref x1)] []) _
  refine st65 _ ?_
  show GO p e below T65 (mkF m 3 #[.val (.ref a1), .val (.ref x1)] [(.int z0)]) _
  refine XS.ifNo X65.here hx rfl (hb hby d13_3) rfl ((if0 _ _).trans (feq ((by first | assumption | decide) : ¬ (z0 = (0 : Int32)))).1) ?_
  show GO p e below T65 (mkF m 6 #[.val (.ref a1), .val (.ref x1)] []) _
  refine XS.aloadN X65.here hx rfl (hb hby d13_6) rfl rfl ?_
  show GO p e below T65 (mkF m 7 #[.val (.ref a1), .val (.ref x1)] [(.ref a1)]) _
  refine st66 _ ?_
  show GO p e below T66 (mkF m 10 #[.val (.ref a1), .val (.ref x1)] [(.int 0)]) _
  refine XS.aloadN X66.here hx rfl (hb hby d13_10) rfl rfl ?_
  show GO p e below T66 (mkF m 11 #[.val (.ref a1), .val (.ref x1)] [(.ref x1), (.int 0)]) _
  refine st67.trans ?_
  show GO p e below T67 (mkF m 14 #[.val (.ref a1), .val (.ref x1)] [(.int 0), (.int 0)]) _
  refine XS.icmpYes X67.here hx rfl (pc0 := 14) (pc' := 21) rfl (hb hby d13_14) rfl (teq (rfl : (0 : Int32) = (0 : Int32))).1 (by decide) (by decide) ?_
  show GO p e below T67 (mkF m 21 #[.val (.ref a1), .val (.ref x1)] []) _
  exact X67.returnOut hx Bd.returns (hb hby d13_21) hr
 ·show Qrm_inf Z a1 x1 z0 h0 n0 _ T67.heap _
  rw [e67]
  exact ⟨rfl, N67, rfl⟩
def Qrm_gb_0_0_16 (Z : State) (x1 : Addr) (t1 : Addr) (k1 : ClassId) (d1 : Addr) (kd : ClassId) (z0 : Int32) (h0 : Heap) (n0 : Nat) (v : Option Value) (h : Heap) (L : List Loc) : Prop := v = none ∧ Fr n0 L ∧ Keep h0 h [d1] ∧ Arv Z h d1 kd .byte (16 : Int32) [(.int 0), (.int 0), (.int 0), (.int 0), (.int 0), (.int 0), (.int 0), (.int 0), (.int 0), (.int 0), (.int 0), (.int 0), (.int 0), (.int 0), (.int 0), (.int 0)] (.int 0)
theorem ef_rm_gb_0_0_16 (m : MethodId) (x0 : Addr) (x1 : Addr) (x2 : Int32) (x3 : Int32) : entryFrame m #[(.ref x0), (.ref x1), (.int x2), (.int x3)] 4 = mkF m 0 (la10 x0 x1 x2 x3) [] := by first | rfl | (simp [entryFrame, mkF, argsToLocals, Value.category]; done)
theorem rm_gb_0_0_16 (l : Launch) (Z : State) (a0 : Array Value) (hw : HW Z a0) (ws : List Jvm.Cond) (x1 : Addr) (t1 : Addr) (k1 : ClassId) (d1 : Addr) (kd : ClassId) (z0 : Int32) (h0 : Heap) (n0 : Nat) (Z0 : n0 ≤ h0.size) (O0 : Old Z n0 h0) (Esx1 : Exa Z h0 x1 kS1) (Fcx1 : Fld Z h0 x1 kS1 "coder" "B" (.int 0)) (Fvx1 : Fld Z h0 x1 kS1 "value" "[B" (.ref t1)) (Vsx1 : Arv Z h0 t1 k1 .byte (0 : Int32) [] (.int 0)) (Vd : Arv Z h0 d1 kd .byte (16 : Int32) [(.int 0), (.int 0), (.int 0), (.int 0), (.int 0), (.int 0), (.int 0), (.int 0), (.int 0), (.int 0), (.int 0), (.int 0), (.int 0), (.int 0), (.int 0), (.int 0)] (.int 0)) (SZc : Sta Z Z.heap kS1 "COMPACT_STRINGS" "Z" (.int z0)) (hz0 : ¬ z0 = 0) (gd : n0 ≤ d1) (ned : t1 ≠ d1) :
  OwnM l Z h0 (⟨kS1, "getBytes", "([BIB)V"⟩ : MethodName) (Jvm.Cond.code (⟨kS1, "getBytes", "([BIB)V"⟩ : MethodName) jdk_42_method_147_code 4 none :: ws) (RM 1 0 0 18) #[(.ref x1), (.ref d1), (.int 0), (.int 0)] (Qrm_gb_0_0_16 Z x1 t1 k1 d1 kd z0 h0 n0) := by
 refine MetFree.of_bodySF (plainFor_of_name pn_0) hisR ?_
 intro p e s m args below meth c s₁ Bd hml0 hP hK
 obtain ⟨rfl, hZ, hh⟩ := hP
 have hx := Bd.exec
 have hby := Bd.bytes
 have hml : c.maxLocals = 4 := hml0
 have hown : s.vm.findClass kS1 = some m.cls := findClass_of_methodNamed Bd.named
 have hnm := (name_of_methodNamed Bd.named Bd.method).1
 have X0 : Stand p l e (RM 1 0 0 18) s m #[(.ref x1), (.ref d1), (.int 0), (.int 0)] below meth c s₁ [] 0 0 := Stand.of_body Bd
 have e0 : s₁.heap = h0 := by rw [← hh, Bd.state]; rfl
 have N0 := Fr.nil n0
 have pre0 : ∀ t, GO p e below s₁ (mkF m 0 (la10 x1 d1 (0 : Int32) (0 : Int32)) []) t → GO p e below s₁ (entryFrame m #[(.ref x1), (.ref d1), (.int 0), (.int 0)] 4) t := fun t k => castTop (ef_rm_gb_0_0_16 m x1 d1 ((0 : Int32)) ((0 : Int32))) k
 have lt_Esx1 := ltA Esx1.lt
 have lt_Fcx1 := ltA Fcx1.lt
 have lt_Fvx1 := ltA Fvx1.lt
 have lt_Vsx1 := ltA Vsx1.lt
 have lt_Vd := ltA Vd.lt
 -- pc 1: String.coder by rm_sc
 obtain ⟨cq68, kq68, q68a, q68b, q68c⟩ := isOf hZ e0 Esx1
 obtain ⟨_, _, ⟨T68, L68, k68, n68⟩, -, X68, ⟨Lc68, hQ68, l68, y68, z68⟩, st68⟩ := X0.virtualBack hx (y := (⟨kS1, "coder", "()B"⟩ : MethodName)) (z := (⟨kS1, "coder", "()B"⟩ : MethodName)) hown (mvT hZ (wd hw 59 rfl)) (mvT hZ (wd hw 60 rfl)) (notFace_of_selects (args := #[]) (mvT hZ (wd hw 62 rfl))) (mvT hZ (wd hw 62 rfl)) (mvT hZ (wd hw 61 rfl)) (by decide) (backOf (W := 0) (rm_sc l Z a0 hw [] x1 z0 h0 n0 (by omega) O0 Fcx1 (by first | assumption | decide | omega) (by first | assumption | decide | omega)) hZ (wd hw 63 rfl) (wd hw 3 rfl) (by decide) (by decide)) q68a q68c (g := (mkF m 1 (la10 x1 d1 (0 : Int32) (0 : Int32)) [(.ref x1)])) rfl (by rw [hml]; rfl) (Steps.refl _) (argsL := []) (rest := []) (lenOf pd_3 rfl) rfl (wz rfl) (hb hby d14_1) (fun _ _ => ⟨rfl, e0, (by decide : 0 + 0 ≤ _), (by decide : 0 + 0 ≤ _)⟩)
 dsimp only [Pt.U, Pt.locs, Pt.cells, Pt.slots] at X68 l68 y68 z68 st68 hQ68
 subst l68 y68 z68
 obtain ⟨rfl, N68q, e68⟩ := hQ68
 have N68 := Fr.app N0 N68q
 obtain ⟨T69, X69, e69, st69⟩ := getF X68 hx hZ hown (host := "") (Or.inl (wd hw 20 rfl)) Via.refl e68 Fvx1 (g := (mkF m 9 (la10 x1 d1 (0 : Int32) (0 : Int32)) [(.ref x1)])) rfl rfl (hb hby d14_9)
 obtain ⟨T70, X70, e70, st70⟩ := getF X69 hx hZ hown (host := "") (Or.inl (wd hw 20 rfl)) Via.refl e69 Fvx1 (g := (mkF m 18 (la10 x1 d1 (0 : Int32) (0 : Int32)) [(.ref x1), (.int 0), (.ref d1), (.int 0), (.ref t1)])) rfl rfl (hb hby d14_18)
 obtain ⟨cl71, Ar71, -, S71, M71, -, -⟩ := id Vsx1
 obtain ⟨T72, h72, L72, X72, e72, N72, K72, A72, st72⟩ := cpA X70 hx hZ hown (wd hw 88 rfl) (wd hw 91 rfl) (wd hw 89 rfl) (wd hw 90 rfl) e70 Vsx1 Vd (us := []) (Or.inl ⟨rfl, rfl⟩) (by decide) (by decide) (by decide) (by decide) (by decide) rfl (Nat.le_of_ble_eq_true rfl) N68 (by omega) (g := (mkF m 22 (la10 x1 d1 (0 : Int32) (0 : Int32)) [(.int 0), (.int 0), (.ref d1), (.int 0), (.ref t1)])) rfl (by rw [hml]; rfl) rfl (hb hby d14_22) (by decide) (W := 0) (wz rfl) (by decide)
 have sz72 : h0.size ≤ h72.size := K72.1
 have V72 : Arv Z h72 d1 kd .byte (16 : Int32) [(.int 0), (.int 0), (.int 0), (.int 0), (.int 0), (.int 0), (.int 0), (.int 0), (.int 0), (.int 0), (.int 0), (.int 0), (.int 0), (.int 0), (.int 0), (.int 0)] (.int 0) := A72
 obtain ⟨fs, hr, hrun, hended, hW, hsame⟩ := X72.leave (v := none) (fun _ => rfl)
 refine ⟨_, _, pre0 _ ?_, hrun, hended, _, _, rfl, ?_, ⟨_, rfl⟩, hW, hsame.mono (by decide) (by decide)⟩
 ·show GO p e below s₁ (mkF m 0 (la10 x1 d1 (0 : Int32) (0 : Int32)) []) _
  refine XS.aloadN X0.here hx rfl (hb hby d14_0) rfl rfl ?_
  show GO p e below s₁ (mkF m 1 (la10 x1 d1 (0 : Int32) (0 : Int32)) [(.ref x1)]) _
  refine st68.trans ?_
  show GO p e below T68 (mkF m 4 (la10 x1 d1 (0 : Int32) (0 : Int32)) [(.int 0)]) _
  refine XS.iloadN X68.here hx rfl (hb hby d14_4) rfl ?_
  show GO p e below T68 (mkF m 5 (la10 x1 d1 (0 : Int32) (0 : Int32)) [(.int 0), (.int 0)]) _
  refine XS.icmpNo X68.here hx rfl (hb hby d14_5) rfl (teq (rfl : (0 : Int32) = (0 : Int32))).2 ?_
  show GO p e below T68 (mkF m 8 (la10 x1 d1 (0 : Int32) (0 : Int32)) []) _
  refine XS.aloadN X68.here hx rfl (hb hby d14_8) rfl rfl ?_
  show GO p e below T68 (mkF m 9 (la10 x1 d1 (0 : Int32) (0 : Int32)) [(.ref x1)]) _
  refine st69 _ ?_
  show GO p e below T69 (mkF m 12 (la10 x1 d1 (0 : Int32) (0 : Int32)) [(.ref t1)]) _
  refine XS.iconst X69.here hx rfl (hb hby d14_12) ?_
  show GO p e below T69 (mkF m 13 (la10 x1 d1 (0 : Int32) (0 : Int32)) [(.int 0), (.ref t1)]) _
  refine XS.aloadN X69.here hx rfl (hb hby d14_13) rfl rfl ?_
  show GO p e below T69 (mkF m 14 (la10 x1 d1 (0 : Int32) (0 : Int32)) [(.ref d1), (.int 0), (.ref t1)]) _
  refine XS.iloadN X69.here hx rfl (hb hby d14_14) rfl ?_
  show GO p e below T69 (mkF m 15 (la10 x1 d1 (0 : Int32) (0 : Int32)) [(.int 0), (.ref d1), (.int 0), (.ref t1)]) _
  refine XS.iloadN X69.here hx rfl (hb hby d14_15) rfl ?_
  show GO p e below T69 (mkF m 16 (la10 x1 d1 (0 : Int32) (0 : Int32)) [(.int 0), (.int 0), (.ref d1), (.int 0), (.ref t1)]) _
  refine XS.ishl X69.here hx rfl (hb hby d14_16) rfl ?_
  rw [show ((0 : Int32) <<< ((0 : Int32) &&& 31)) = (0 : Int32) from by decide]
  show GO p e below T69 (mkF m 17 (la10 x1 d1 (0 : Int32) (0 : Int32)) [(.int 0), (.ref d1), (.int 0), (.ref t1)]) _
  refine XS.aloadN X69.here hx rfl (hb hby d14_17) rfl rfl ?_
  show GO p e below T69 (mkF m 18 (la10 x1 d1 (0 : Int32) (0 : Int32)) [(.ref x1), (.int 0), (.ref d1), (.int 0), (.ref t1)]) _
  refine st70 _ ?_
  show GO p e below T70 (mkF m 21 (la10 x1 d1 (0 : Int32) (0 : Int32)) [(.ref t1), (.int 0), (.ref d1), (.int 0), (.ref t1)]) _
  refine X70.arraylength hx (by rw [e70]; exact Ar71.1) (State.isArrayOf_alike hZ.alike Ar71.2.1) (g := (mkF m 21 (la10 x1 d1 (0 : Int32) (0 : Int32)) [(.ref t1), (.int 0), (.ref d1), (.int 0), (.ref t1)])) rfl rfl (hb hby d14_21) _ ?_
  rw [len_of S71 M71]
  show GO p e below T70 (mkF m 22 (la10 x1 d1 (0 : Int32) (0 : Int32)) [(.int 0), (.int 0), (.ref d1), (.int 0), (.ref t1)]) _
  refine st72 _ ?_
  show GO p e below T72 (mkF m 25 (la10 x1 d1 (0 : Int32) (0 : Int32)) []) _
  refine XS.goto X72.here hx rfl (pc0 := 25) (pc' := 43) rfl (hb hby d14_25) (by decide) (by decide) ?_
  show GO p e below T72 (mkF m 43 (la10 x1 d1 (0 : Int32) (0 : Int32)) []) _
  exact X72.returnOut hx Bd.returns (hb hby d14_43) hr
 ·show Qrm_gb_0_0_16 Z x1 t1 k1 d1 kd z0 h0 n0 _ T72.heap _
  rw [e72]
  exact ⟨rfl, N72, ((Keep.refl h0 [d1]).trans K72 (allS (P := fun x => x ∈ _ ∨ _) (Or.inl (List.mem_of_getElem? (i := 0) rfl)) all0)), V72⟩
def Qrm_ps_0_0_16 (Z : State) (x1 : Addr) (t1 : Addr) (k1 : ClassId) (a1 : Addr) (d1 : Addr) (kd : ClassId) (z0 : Int32) (h0 : Heap) (n0 : Nat) (v : Option Value) (h : Heap) (L : List Loc) : Prop := v = none ∧ Fr n0 L ∧ Keep h0 h [d1] ∧ Arv Z h d1 kd .byte (16 : Int32) [(.int 0), (.int 0), (.int 0), (.int 0), (.int 0), (.int 0), (.int 0), (.int 0), (.int 0), (.int 0), (.int 0), (.int 0), (.int 0), (.int 0), (.int 0), (.int 0)] (.int 0)
theorem ef_rm_ps_0_0_16 (m : MethodId) (x0 : Addr) (x1 : Int32) (x2 : Addr) : entryFrame m #[(.ref x0), (.int x1), (.ref x2)] 3 = mkF m 0 (la7 x0 x1 x2) [] := by first | rfl | (simp [entryFrame, mkF, argsToLocals, Value.category]; done)
theorem rm_ps_0_0_16 (l : Launch) (Z : State) (a0 : Array Value) (hw : HW Z a0) (ws : List Jvm.Cond) (x1 : Addr) (t1 : Addr) (k1 : ClassId) (a1 : Addr) (d1 : Addr) (kd : ClassId) (z0 : Int32) (h0 : Heap) (n0 : Nat) (Z0 : n0 ≤ h0.size) (O0 : Old Z n0 h0) (Esx1 : Exa Z h0 x1 kS1) (Fcx1 : Fld Z h0 x1 kS1 "coder" "B" (.int 0)) (Fvx1 : Fld Z h0 x1 kS1 "value" "[B" (.ref t1)) (Vsx1 : Arv Z h0 t1 k1 .byte (0 : Int32) [] (.int 0)) (Eb : Exa Z h0 a1 kS2) (Fbv : Fld Z h0 a1 kS0 "value" "[B" (.ref d1)) (Fbc : Fld Z h0 a1 kS0 "coder" "B" (.int 0)) (Fbn : Fld Z h0 a1 kS0 "count" "I" (.int 0)) (Vb : Arv Z h0 d1 kd .byte (16 : Int32) [(.int 0), (.int 0), (.int 0), (.int 0), (.int 0), (.int 0), (.int 0), (.int 0), (.int 0), (.int 0), (.int 0), (.int 0), (.int 0), (.int 0), (.int 0), (.int 0)] (.int 0)) (SZc : Sta Z Z.heap kS1 "COMPACT_STRINGS" "Z" (.int z0)) (hz0 : ¬ z0 = 0) (gd : n0 ≤ d1) (ned : t1 ≠ d1) :
  OwnM l Z h0 (⟨kS0, "putStringAt", "(ILjava/lang/String;)V"⟩ : MethodName) (Jvm.Cond.code (⟨kS0, "putStringAt", "(ILjava/lang/String;)V"⟩ : MethodName) jdk_68_method_73_code 3 none :: ws) (RM 2 0 0 33) #[(.ref a1), (.int 0), (.ref x1)] (Qrm_ps_0_0_16 Z x1 t1 k1 a1 d1 kd z0 h0 n0) := by
 refine MetFree.of_bodySF (plainFor_of_name pn_2) hisR ?_
 intro p e s m args below meth c s₁ Bd hml0 hP hK
 obtain ⟨rfl, hZ, hh⟩ := hP
 have hx := Bd.exec
 have hby := Bd.bytes
 have hml : c.maxLocals = 3 := hml0
 have hown : s.vm.findClass kS0 = some m.cls := findClass_of_methodNamed Bd.named
 have hnm := (name_of_methodNamed Bd.named Bd.method).1
 have X0 : Stand p l e (RM 2 0 0 33) s m #[(.ref a1), (.int 0), (.ref x1)] below meth c s₁ [] 0 0 := Stand.of_body Bd
 have e0 : s₁.heap = h0 := by rw [← hh, Bd.state]; rfl
 have N0 := Fr.nil n0
 have pre0 : ∀ t, GO p e below s₁ (mkF m 0 (la7 a1 (0 : Int32) x1) []) t → GO p e below s₁ (entryFrame m #[(.ref a1), (.int 0), (.ref x1)] 3) t := fun t k => castTop (ef_rm_ps_0_0_16 m a1 ((0 : Int32)) x1) k
 have lt_Esx1 := ltA Esx1.lt
 have lt_Fcx1 := ltA Fcx1.lt
 have lt_Fvx1 := ltA Fvx1.lt
 have lt_Vsx1 := ltA Vsx1.lt
 have lt_Eb := ltA Eb.lt
 have lt_Fbv := ltA Fbv.lt
 have lt_Fbc := ltA Fbc.lt
 have lt_Fbn := ltA Fbn.lt
 have lt_Vb := ltA Vb.lt
 -- pc 2: AbstractStringBuilder.inflateIfNeededFor by rm_inf
 obtain ⟨cq73, q73a, q73b⟩ := Eb.cell
 obtain ⟨_, _, ⟨T73, L73, k73, n73⟩, -, X73, ⟨Lc73, hQ73, l73, y73, z73⟩, st73⟩ := X0.privateBack hx (y := (⟨kS0, "inflateIfNeededFor", "(Ljava/lang/String;)V"⟩ : MethodName)) hown (mvT hZ (wd hw 77 rfl)) (mvT hZ (wd hw 78 rfl)) (mvT hZ (own_selfsel (wd hw 80 rfl) (wd hw 79 rfl) (wd hw 78 rfl) (by decide))) (Cond.privateMethod_at (mvP hZ (wd hw 79 rfl) (args := #[]))) (mvT hZ (wd hw 81 rfl)) (by decide) (backOf (W := 0) (rm_inf l Z a0 hw [] a1 x1 z0 h0 n0 (by omega) O0 Fbc Esx1 Fcx1 (by first | assumption | decide | omega) (by first | assumption | decide | omega)) hZ (wd hw 81 rfl) (wd hw 36 rfl) (by decide) (by decide)) (g := (mkF m 2 (la7 a1 (0 : Int32) x1) [(.ref x1), (.ref a1)])) rfl (by rw [hml]; rfl) (Steps.refl _) (a := a1) (by rw [e0]; exact q73a) q73b (argsL := [(.ref x1)]) (rest := []) (lenOf pd_6 rfl) rfl (wz rfl) (hb hby d12_2) (fun _ _ => ⟨rfl, e0, (by decide : 0 + 0 ≤ _), (by decide : 0 + 0 ≤ _)⟩)
 dsimp only [Pt.U, Pt.locs, Pt.cells, Pt.slots] at X73 l73 y73 z73 st73 hQ73
 subst l73 y73 z73
 obtain ⟨rfl, N73q, e73⟩ := hQ73
 have N73 := Fr.app N0 N73q
 obtain ⟨T74, X74, e74, st74⟩ := getF X73 hx hZ hown (host := "") (Or.inl (wd hw 40 rfl)) Via.refl e73 Fbv (g := (mkF m 7 (la7 a1 (0 : Int32) x1) [(.ref a1), (.ref x1)])) rfl rfl (hb hby d12_7)
 obtain ⟨T75, X75, e75, st75⟩ := getF X74 hx hZ hown (host := "") (Or.inl (wd hw 42 rfl)) Via.refl e74 Fbc (g := (mkF m 12 (la7 a1 (0 : Int32) x1) [(.ref a1), (.int 0), (.ref d1), (.ref x1)])) rfl rfl (hb hby d12_12)
 -- pc 15: String.getBytes by rm_gb_0_0_16
 obtain ⟨cq76, kq76, q76a, q76b, q76c⟩ := isOf hZ e75 Esx1
 obtain ⟨_, _, ⟨T76, L76, k76, n76⟩, -, X76, ⟨Lc76, hQ76, l76, y76, z76⟩, st76⟩ := X75.virtualBack hx (y := (⟨kS1, "getBytes", "([BIB)V"⟩ : MethodName)) (z := (⟨kS1, "getBytes", "([BIB)V"⟩ : MethodName)) hown (mvT hZ (wd hw 83 rfl)) (mvT hZ (wd hw 84 rfl)) (notFace_of_selects (args := #[]) (mvT hZ (wd hw 86 rfl))) (mvT hZ (wd hw 86 rfl)) (mvT hZ (wd hw 85 rfl)) (by decide) (backOf (W := 0) (rm_gb_0_0_16 l Z a0 hw [] x1 t1 k1 d1 kd z0 h0 n0 (by omega) O0 Esx1 Fcx1 Fvx1 Vsx1 Vb (by first | assumption | decide | omega) (by first | assumption | decide | omega) (by first | assumption | decide | omega) ned) hZ (wd hw 87 rfl) (wd hw 3 rfl) (by decide) (by decide)) q76a q76c (g := (mkF m 15 (la7 a1 (0 : Int32) x1) [(.int 0), (.int 0), (.ref d1), (.ref x1)])) rfl (by rw [hml]; rfl) (Steps.refl _) (argsL := [(.ref d1), (.int 0), (.int 0)]) (rest := []) (lenOf pd_7 rfl) rfl (wz rfl) (hb hby d12_15) (fun _ _ => ⟨rfl, e75, (by decide : 0 + 0 ≤ _), (by decide : 0 + 0 ≤ _)⟩)
 dsimp only [Pt.U, Pt.locs, Pt.cells, Pt.slots] at X76 l76 y76 z76 st76 hQ76
 subst l76 y76 z76
 obtain ⟨h76, e76⟩ : ∃ z, T76.heap = z := ⟨_, rfl⟩
 rw [e76] at hQ76
 obtain ⟨rfl, N76q, K76, p76_0⟩ := hQ76
 have N76 := Fr.app N73 N76q
 have sz76 : h0.size ≤ h76.size := K76.1
 have lt76_0 := ltA p76_0.lt
 obtain ⟨fs, hr, hrun, hended, hW, hsame⟩ := X76.leave (v := none) (fun _ => rfl)
 refine ⟨_, _, pre0 _ ?_, hrun, hended, _, _, rfl, ?_, ⟨_, rfl⟩, hW, hsame.mono (by decide) (by decide)⟩
 ·show GO p e below s₁ (mkF m 0 (la7 a1 (0 : Int32) x1) []) _
  refine XS.aloadN X0.here hx rfl (hb hby d12_0) rfl rfl ?_
  show GO p e below s₁ (mkF m 1 (la7 a1 (0 : Int32) x1) [(.ref a1)]) _
  refine XS.aloadN X0.here hx rfl (hb hby d12_1) rfl rfl ?_
  show GO p e below s₁ (mkF m 2 (la7 a1 (0 : Int32) x1) [(.ref x1), (.ref a1)]) _
  refine st73.trans ?_
  show GO p e below T73 (mkF m 5 (la7 a1 (0 : Int32) x1) []) _
  refine XS.aloadN X73.here hx rfl (hb hby d12_5) rfl rfl ?_
  show GO p e below T73 (mkF m 6 (la7 a1 (0 : Int32) x1) [(.ref x1)]) _
  refine XS.aloadN X73.here hx rfl (hb hby d12_6) rfl rfl ?_
  show GO p e below T73 (mkF m 7 (la7 a1 (0 : Int32) x1) [(.ref a1), (.ref x1)]) _
  refine st74 _ ?_
  show GO p e below T74 (mkF m 10 (la7 a1 (0 : Int32) x1) [(.ref d1), (.ref x1)]) _
  refine XS.iloadN X74.here hx rfl (hb hby d12_10) rfl ?_
  show GO p e below T74 (mkF m 11 (la7 a1 (0 : Int32) x1) [(.int 0), (.ref d1), (.ref x1)]) _
  refine XS.aloadN X74.here hx rfl (hb hby d12_11) rfl rfl ?_
  show GO p e below T74 (mkF m 12 (la7 a1 (0 : Int32) x1) [(.ref a1), (.int 0), (.ref d1), (.ref x1)]) _
  refine st75 _ ?_
  show GO p e below T75 (mkF m 15 (la7 a1 (0 : Int32) x1) [(.int 0), (.int 0), (.ref d1), (.ref x1)]) _
  refine st76.trans ?_
  show GO p e below T76 (mkF m 18 (la7 a1 (0 : Int32) x1) []) _
  exact X76.returnOut hx Bd.returns (hb hby d12_18) hr
 ·show Qrm_ps_0_0_16 Z x1 t1 k1 a1 d1 kd z0 h0 n0 _ T76.heap _
  rw [e76]
  exact ⟨rfl, N76, ((Keep.refl h0 [d1]).trans K76 (allS (P := fun x => x ∈ _ ∨ _) (Or.inl (List.mem_of_getElem? (i := 0) rfl)) all0)), p76_0⟩
def Qrm_aa_0_0_16 (Z : State) (x1 : Addr) (t1 : Addr) (k1 : ClassId) (a1 : Addr) (d1 : Addr) (kd : ClassId) (z0 : Int32) (h0 : Heap) (n0 : Nat) (v : Option Value) (h : Heap) (L : List Loc) : Prop := v = some (.ref a1) ∧ Fr n0 L ∧ Keep h0 h [a1, d1] ∧ Exa Z h a1 kS2 ∧ Fld Z h a1 kS0 "value" "[B" (.ref d1) ∧ Fld Z h a1 kS0 "coder" "B" (.int 0) ∧ Fld Z h a1 kS0 "count" "I" (.int 0) ∧ Arv Z h d1 kd .byte (16 : Int32) [(.int 0), (.int 0), (.int 0), (.int 0), (.int 0), (.int 0), (.int 0), (.int 0), (.int 0), (.int 0), (.int 0), (.int 0), (.int 0), (.int 0), (.int 0), (.int 0)] (.int 0)
theorem ef_rm_aa_0_0_16 (m : MethodId) (x0 : Addr) (x1 : Addr) : entryFrame m #[(.ref x0), (.ref x1)] 3 = mkF m 0 (la11 x0 x1) [] := by first | rfl | (simp [entryFrame, mkF, argsToLocals, Value.category]; done)
theorem rm_aa_0_0_16 (l : Launch) (Z : State) (a0 : Array Value) (hw : HW Z a0) (ws : List Jvm.Cond) (x1 : Addr) (t1 : Addr) (k1 : ClassId) (a1 : Addr) (d1 : Addr) (kd : ClassId) (z0 : Int32) (h0 : Heap) (n0 : Nat) (Z0 : n0 ≤ h0.size) (O0 : Old Z n0 h0) (Esx1 : Exa Z h0 x1 kS1) (Fcx1 : Fld Z h0 x1 kS1 "coder" "B" (.int 0)) (Fvx1 : Fld Z h0 x1 kS1 "value" "[B" (.ref t1)) (Vsx1 : Arv Z h0 t1 k1 .byte (0 : Int32) [] (.int 0)) (Eb : Exa Z h0 a1 kS2) (Fbv : Fld Z h0 a1 kS0 "value" "[B" (.ref d1)) (Fbc : Fld Z h0 a1 kS0 "coder" "B" (.int 0)) (Fbn : Fld Z h0 a1 kS0 "count" "I" (.int 0)) (Vb : Arv Z h0 d1 kd .byte (16 : Int32) [(.int 0), (.int 0), (.int 0), (.int 0), (.int 0), (.int 0), (.int 0), (.int 0), (.int 0), (.int 0), (.int 0), (.int 0), (.int 0), (.int 0), (.int 0), (.int 0)] (.int 0)) (SZc : Sta Z Z.heap kS1 "COMPACT_STRINGS" "Z" (.int z0)) (hz0 : ¬ z0 = 0) (ga : n0 ≤ a1) (gd : n0 ≤ d1) (ned : t1 ≠ d1) :
  OwnM l Z h0 (⟨kS0, "append", kS3⟩ : MethodName) (Jvm.Cond.code (⟨kS0, "append", kS3⟩ : MethodName) jdk_68_method_22_code 3 (some (.object kS0)) :: ws) (RM 3 0 0 47) #[(.ref a1), (.ref x1)] (Qrm_aa_0_0_16 Z x1 t1 k1 a1 d1 kd z0 h0 n0) := by
 refine MetFree.of_bodySF (plainFor_of_name pn_2) hisR ?_
 intro p e s m args below meth c s₁ Bd hml0 hP hK
 obtain ⟨rfl, hZ, hh⟩ := hP
 have hx := Bd.exec
 have hby := Bd.bytes
 have hml : c.maxLocals = 3 := hml0
 have hown : s.vm.findClass kS0 = some m.cls := findClass_of_methodNamed Bd.named
 have hnm := (name_of_methodNamed Bd.named Bd.method).1
 have X0 : Stand p l e (RM 3 0 0 47) s m #[(.ref a1), (.ref x1)] below meth c s₁ [] 0 0 := Stand.of_body Bd
 have e0 : s₁.heap = h0 := by rw [← hh, Bd.state]; rfl
 have N0 := Fr.nil n0
 have pre0 : ∀ t, GO p e below s₁ (mkF m 0 (la11 a1 x1) []) t → GO p e below s₁ (entryFrame m #[(.ref a1), (.ref x1)] 3) t := fun t k => castTop (ef_rm_aa_0_0_16 m a1 x1) k
 have lt_Esx1 := ltA Esx1.lt
 have lt_Fcx1 := ltA Fcx1.lt
 have lt_Fvx1 := ltA Fvx1.lt
 have lt_Vsx1 := ltA Vsx1.lt
 have lt_Eb := ltA Eb.lt
 have lt_Fbv := ltA Fbv.lt
 have lt_Fbc := ltA Fbc.lt
 have lt_Fbn := ltA Fbn.lt
 have lt_Vb := ltA Vb.lt
 -- pc 10: String.length by rm_sl0
 obtain ⟨cq77, kq77, q77a, q77b, q77c⟩ := isOf hZ e0 Esx1
 obtain ⟨_, _, ⟨T77, L77, k77, n77⟩, -, X77, ⟨Lc77, hQ77, l77, y77, z77⟩, st77⟩ := X0.virtualBack hx (y := (⟨kS1, "length", "()I"⟩ : MethodName)) (z := (⟨kS1, "length", "()I"⟩ : MethodName)) hown (mvT hZ (wd hw 54 rfl)) (mvT hZ (wd hw 55 rfl)) (notFace_of_selects (args := #[]) (mvT hZ (wd hw 57 rfl))) (mvT hZ (wd hw 57 rfl)) (mvT hZ (wd hw 56 rfl)) (by decide) (backOf (W := 0) (rm_sl0 l Z a0 hw [] x1 t1 k1 z0 h0 n0 (by omega) O0 Esx1 Fcx1 Fvx1 Vsx1 (by first | assumption | decide | omega) (by first | assumption | decide | omega)) hZ (wd hw 58 rfl) (wd hw 3 rfl) (by decide) (by decide)) q77a q77c (g := (mkF m 10 (la11 a1 x1) [(.ref x1)])) rfl (by rw [hml]; rfl) (Steps.refl _) (argsL := []) (rest := []) (lenOf pd_8 rfl) rfl (wz rfl) (hb hby d8_10) (fun _ _ => ⟨rfl, e0, (by decide : 0 + 0 ≤ _), (by decide : 0 + 0 ≤ _)⟩)
 dsimp only [Pt.U, Pt.locs, Pt.cells, Pt.slots] at X77 l77 y77 z77 st77 hQ77
 subst l77 y77 z77
 obtain ⟨rfl, N77q, e77⟩ := hQ77
 have N77 := Fr.app N0 N77q
 obtain ⟨T78, X78, e78, st78⟩ := getF X77 hx hZ hown (host := "") (Or.inl (wd hw 65 rfl)) Via.refl e77 Fbn (g := (mkF m 16 (la12 a1 x1 (0 : Int32)) [(.ref a1), (.ref a1)])) rfl rfl (hb hby d8_16)
 -- pc 21: AbstractStringBuilder.ensureCapacityInternal by rm_en_16
 obtain ⟨cq79, q79a, q79b⟩ := Eb.cell
 obtain ⟨_, _, ⟨T79, L79, k79, n79⟩, -, X79, ⟨Lc79, hQ79, l79, y79, z79⟩, st79⟩ := X78.privateBack hx (y := (⟨kS0, "ensureCapacityInternal", "(I)V"⟩ : MethodName)) hown (mvT hZ (wd hw 67 rfl)) (mvT hZ (wd hw 68 rfl)) (mvT hZ (own_selfsel (wd hw 70 rfl) (wd hw 69 rfl) (wd hw 68 rfl) (by decide))) (Cond.privateMethod_at (mvP hZ (wd hw 69 rfl) (args := #[]))) (mvT hZ (wd hw 71 rfl)) (by decide) (backOf (W := 0) (rm_en_16 l Z a0 hw [] a1 d1 kd ([(.int 0), (.int 0), (.int 0), (.int 0), (.int 0), (.int 0), (.int 0), (.int 0), (.int 0), (.int 0), (.int 0), (.int 0), (.int 0), (.int 0), (.int 0), (.int 0)]) (0 : Int32) h0 n0 (by omega) Fbv Fbc Vb (by decide)) hZ (wd hw 71 rfl) (wd hw 36 rfl) (by decide) (by decide)) (g := (mkF m 21 (la12 a1 x1 (0 : Int32)) [(.int 0), (.ref a1)])) rfl (by rw [hml]; rfl) (Steps.refl _) (a := a1) (by rw [e78]; exact q79a) q79b (argsL := [(.int 0)]) (rest := []) (lenOf pd_5 rfl) rfl (wz rfl) (hb hby d8_21) (fun _ _ => ⟨rfl, e78, (by decide : 0 + 0 ≤ _), (by decide : 0 + 0 ≤ _)⟩)
 dsimp only [Pt.U, Pt.locs, Pt.cells, Pt.slots] at X79 l79 y79 z79 st79 hQ79
 subst l79 y79 z79
 obtain ⟨rfl, N79q, e79⟩ := hQ79
 have N79 := Fr.app N77 N79q
 obtain ⟨T80, X80, e80, st80⟩ := getF X79 hx hZ hown (host := "") (Or.inl (wd hw 65 rfl)) Via.refl e79 Fbn (g := (mkF m 26 (la12 a1 x1 (0 : Int32)) [(.ref a1), (.ref a1)])) rfl rfl (hb hby d8_26)
 -- pc 30: AbstractStringBuilder.putStringAt by rm_ps_0_0_16
 obtain ⟨cq81, q81a, q81b⟩ := Eb.cell
 obtain ⟨_, _, ⟨T81, L81, k81, n81⟩, -, X81, ⟨Lc81, hQ81, l81, y81, z81⟩, st81⟩ := X80.privateBack hx (y := (⟨kS0, "putStringAt", "(ILjava/lang/String;)V"⟩ : MethodName)) hown (mvT hZ (wd hw 72 rfl)) (mvT hZ (wd hw 73 rfl)) (mvT hZ (own_selfsel (wd hw 75 rfl) (wd hw 74 rfl) (wd hw 73 rfl) (by decide))) (Cond.privateMethod_at (mvP hZ (wd hw 74 rfl) (args := #[]))) (mvT hZ (wd hw 76 rfl)) (by decide) (backOf (W := 0) (rm_ps_0_0_16 l Z a0 hw [] x1 t1 k1 a1 d1 kd z0 h0 n0 (by omega) O0 Esx1 Fcx1 Fvx1 Vsx1 Eb Fbv Fbc Fbn Vb (by first | assumption | decide | omega) (by first | assumption | decide | omega) (by first | assumption | decide | omega) ned) hZ (wd hw 76 rfl) (wd hw 36 rfl) (by decide) (by decide)) (g := (mkF m 30 (la12 a1 x1 (0 : Int32)) [(.ref x1), (.int 0), (.ref a1)])) rfl (by rw [hml]; rfl) (Steps.refl _) (a := a1) (by rw [e80]; exact q81a) q81b (argsL := [(.int 0), (.ref x1)]) (rest := []) (lenOf pd_9 rfl) rfl (wz rfl) (hb hby d8_30) (fun _ _ => ⟨rfl, e80, (by decide : 0 + 0 ≤ _), (by decide : 0 + 0 ≤ _)⟩)
 dsimp only [Pt.U, Pt.locs, Pt.cells, Pt.slots] at X81 l81 y81 z81 st81 hQ81
 subst l81 y81 z81
 obtain ⟨h81, e81⟩ : ∃ z, T81.heap = z := ⟨_, rfl⟩
 rw [e81] at hQ81
 obtain ⟨rfl, N81q, K81, p81_0⟩ := hQ81
 have N81 := Fr.app N79 N81q
 have ne82 : d1 ≠ x1 := Ne.symm (Exa.neArv Esx1 Vb (wd hw 2 rfl))
 have ne83 : d1 ≠ a1 := Ne.symm (Exa.neArv Eb Vb (wd hw 27 rfl))
 have sz81 : h0.size ≤ h81.size := K81.1
 have lt81_0 := ltA p81_0.lt
 have f84 : Fld Z h81 a1 kS0 "count" "I" (.int 0) := (Fbn.keep K81 (ninS (Ne.symm ne83) nin0))
 obtain ⟨T85, X85, e85, st85⟩ := getF X81 hx hZ hown (host := "") (Or.inl (wd hw 65 rfl)) Via.refl e81 f84 (g := (mkF m 35 (la12 a1 x1 (0 : Int32)) [(.ref a1), (.ref a1)])) rfl rfl (hb hby d8_35)
 have f86 : Exa Z h81 a1 kS2 := (Eb.keep K81)
 obtain ⟨T87, h87, X87, e87, W87, st87⟩ := putF X85 hx hZ hown (host := "") (Or.inl (wd hw 65 rfl)) Via.refl e85 f84 f86 (Or.inl (wd hw 66 rfl)) (wd hw 27 rfl) (ty := .int) (by decide) rfl rfl (g := (mkF m 40 (la12 a1 x1 (0 : Int32)) [(.int 0), (.ref a1)])) rfl rfl (hb hby d8_40)
 have N87 := Fr.snoc X87 N81 (by omega : n0 ≤ a1)
 have f88 : Exa Z h81 x1 kS1 := (Esx1.keep K81)
 have ne89 : a1 ≠ x1 := ne_exa f86 f88 (by decide)
 have f90 : Arv Z h81 t1 k1 .byte (0 : Int32) [] (.int 0) := (Vsx1.keep K81 (ninS ned nin0))
 have ne91 : a1 ≠ t1 := Exa.neArv f86 f90 (wd hw 27 rfl)
 have sz87 : h81.size ≤ h87.size := Nat.le_of_eq W87.size.symm
 have f87 : Fld Z h87 a1 kS0 "count" "I" (.int 0) := f84.same W87
 have f92 : Exa Z h87 a1 kS2 := (f86.wr W87)
 have f93 : Fld Z h87 a1 kS0 "value" "[B" (.ref d1) := ((Fbv.keep K81 (ninS (Ne.symm ne83) nin0)).other W87 (Or.inr (slot_ne (Or.inl (wd hw 41 rfl)) (Or.inl (wd hw 66 rfl)) (by decide) (t := (.array .byte)) (t' := .int) (by decide) (by decide))))
 have f94 : Fld Z h87 a1 kS0 "coder" "B" (.int 0) := ((Fbc.keep K81 (ninS (Ne.symm ne83) nin0)).other W87 (Or.inr (slot_ne (Or.inl (wd hw 43 rfl)) (Or.inl (wd hw 66 rfl)) (by decide) (t := .byte) (t' := .int) (by decide) (by decide))))
 have f95 : Arv Z h87 d1 kd .byte (16 : Int32) [(.int 0), (.int 0), (.int 0), (.int 0), (.int 0), (.int 0), (.int 0), (.int 0), (.int 0), (.int 0), (.int 0), (.int 0), (.int 0), (.int 0), (.int 0), (.int 0)] (.int 0) := (p81_0.other W87 ne83)
 obtain ⟨fs, hr, hrun, hended, hW, hsame⟩ := X87.leave (v := some (.ref a1)) (fun h => by rw [Bd.returns] at h; cases h)
 refine ⟨_, _, pre0 _ ?_, hrun, hended, _, _, rfl, ?_, ⟨_, rfl⟩, hW, hsame.mono (by decide) (by decide)⟩
 ·show GO p e below s₁ (mkF m 0 (la11 a1 x1) []) _
  refine XS.aloadN X0.here hx rfl (hb hby d8_0) rfl rfl ?_
  show GO p e below s₁ (mkF m 1 (la11 a1 x1) [(.ref x1)]) _
  refine XS.ifnonnullYes X0.here hx rfl (pc0 := 1) (pc' := 9) rfl (hb hby d8_1) rfl (by decide) (by decide) ?_
  show GO p e below s₁ (mkF m 9 (la11 a1 x1) []) _
  refine XS.aloadN X0.here hx rfl (hb hby d8_9) rfl rfl ?_
  show GO p e below s₁ (mkF m 10 (la11 a1 x1) [(.ref x1)]) _
  refine st77.trans ?_
  show GO p e below T77 (mkF m 13 (la11 a1 x1) [(.int 0)]) _
  refine XS.istoreN X77.here hx rfl (hb hby d8_13) rfl (l' := (la12 a1 x1 (0 : Int32))) rfl ?_
  show GO p e below T77 (mkF m 14 (la12 a1 x1 (0 : Int32)) []) _
  refine XS.aloadN X77.here hx rfl (hb hby d8_14) rfl rfl ?_
  show GO p e below T77 (mkF m 15 (la12 a1 x1 (0 : Int32)) [(.ref a1)]) _
  refine XS.aloadN X77.here hx rfl (hb hby d8_15) rfl rfl ?_
  show GO p e below T77 (mkF m 16 (la12 a1 x1 (0 : Int32)) [(.ref a1), (.ref a1)]) _
  refine st78 _ ?_
  show GO p e below T78 (mkF m 19 (la12 a1 x1 (0 : Int32)) [(.int 0), (.ref a1)]) _
  refine XS.iloadN X78.here hx rfl (hb hby d8_19) rfl ?_
  show GO p e below T78 (mkF m 20 (la12 a1 x1 (0 : Int32)) [(.int 0), (.int 0), (.ref a1)]) _
  refine XS.iadd X78.here hx rfl (hb hby d8_20) rfl ?_
  rw [show ((0 : Int32) + (0 : Int32)) = (0 : Int32) from by decide]
  show GO p e below T78 (mkF m 21 (la12 a1 x1 (0 : Int32)) [(.int 0), (.ref a1)]) _
  refine st79.trans ?_
  show GO p e below T79 (mkF m 24 (la12 a1 x1 (0 : Int32)) []) _
  refine XS.aloadN X79.here hx rfl (hb hby d8_24) rfl rfl ?_
  show GO p e below T79 (mkF m 25 (la12 a1 x1 (0 : Int32)) [(.ref a1)]) _
  refine XS.aloadN X79.here hx rfl (hb hby d8_25) rfl rfl ?_
  show GO p e below T79 (mkF m 26 (la12 a1 x1 (0 : Int32)) [(.ref a1), (.ref a1)]) _
  refine st80 _ ?_
  show GO p e below T80 (mkF m 29 (la12 a1 x1 (0 : Int32)) [(.int 0), (.ref a1)]) _
  refine XS.aloadN X80.here hx rfl (hb hby d8_29) rfl rfl ?_
  show GO p e below T80 (mkF m 30 (la12 a1 x1 (0 : Int32)) [(.ref x1), (.int 0), (.ref a1)]) _
  refine st81.trans ?_
  show GO p e below T81 (mkF m 33 (la12 a1 x1 (0 : Int32)) []) _
  refine XS.aloadN X81.here hx rfl (hb hby d8_33) rfl rfl ?_
  show GO p e below T81 (mkF m 34 (la12 a1 x1 (0 : Int32)) [(.ref a1)]) _
  refine XS.dup X81.here hx rfl (hb hby d8_34) rfl rfl ?_
  show GO p e below T81 (mkF m 35 (la12 a1 x1 (0 : Int32)) [(.ref a1), (.ref a1)]) _
  refine st85 _ ?_
  show GO p e below T85 (mkF m 38 (la12 a1 x1 (0 : Int32)) [(.int 0), (.ref a1)]) _
  refine XS.iloadN X85.here hx rfl (hb hby d8_38) rfl ?_
  show GO p e below T85 (mkF m 39 (la12 a1 x1 (0 : Int32)) [(.int 0), (.int 0), (.ref a1)]) _
  refine XS.iadd X85.here hx rfl (hb hby d8_39) rfl ?_
  rw [show ((0 : Int32) + (0 : Int32)) = (0 : Int32) from by decide]
  show GO p e below T85 (mkF m 40 (la12 a1 x1 (0 : Int32)) [(.int 0), (.ref a1)]) _
  refine st87 _ ?_
  show GO p e below T87 (mkF m 43 (la12 a1 x1 (0 : Int32)) []) _
  refine XS.aloadN X87.here hx rfl (hb hby d8_43) rfl rfl ?_
  show GO p e below T87 (mkF m 44 (la12 a1 x1 (0 : Int32)) [(.ref a1)]) _
  exact retOut X87 hx Bd.returns rfl (Or.inr (Or.inr (Or.inr (Or.inr ⟨rfl, rfl, rfl⟩)))) (hb hby d8_44) hr
 ·show Qrm_aa_0_0_16 Z x1 t1 k1 a1 d1 kd z0 h0 n0 _ T87.heap _
  rw [e87]
  exact ⟨rfl, N87, (((Keep.refl h0 [a1, d1]).trans K81 (allS (P := fun x => x ∈ _ ∨ _) (Or.inl (List.mem_of_getElem? (i := 1) rfl)) all0)).wr W87 (Or.inl (List.mem_of_getElem? (i := 0) rfl))), f92, f93, f94, f87, f95⟩
def Qrm_sa_0_0_16 (Z : State) (x1 : Addr) (t1 : Addr) (k1 : ClassId) (a1 : Addr) (d1 : Addr) (kd : ClassId) (z0 : Int32) (h0 : Heap) (n0 : Nat) (v : Option Value) (h : Heap) (L : List Loc) : Prop := v = some (.ref a1) ∧ Fr n0 L ∧ Keep h0 h [a1, d1] ∧ Exa Z h a1 kS2 ∧ Fld Z h a1 kS0 "value" "[B" (.ref d1) ∧ Fld Z h a1 kS0 "coder" "B" (.int 0) ∧ Fld Z h a1 kS0 "count" "I" (.int 0) ∧ Arv Z h d1 kd .byte (16 : Int32) [(.int 0), (.int 0), (.int 0), (.int 0), (.int 0), (.int 0), (.int 0), (.int 0), (.int 0), (.int 0), (.int 0), (.int 0), (.int 0), (.int 0), (.int 0), (.int 0)] (.int 0)
theorem ef_rm_sa_0_0_16 (m : MethodId) (x0 : Addr) (x1 : Addr) : entryFrame m #[(.ref x0), (.ref x1)] 2 = mkF m 0 #[.val (.ref x0), .val (.ref x1)] [] := by first | rfl | (simp [entryFrame, mkF, argsToLocals, Value.category]; done)
theorem rm_sa_0_0_16 (l : Launch) (Z : State) (a0 : Array Value) (hw : HW Z a0) (ws : List Jvm.Cond) (x1 : Addr) (t1 : Addr) (k1 : ClassId) (a1 : Addr) (d1 : Addr) (kd : ClassId) (z0 : Int32) (h0 : Heap) (n0 : Nat) (Z0 : n0 ≤ h0.size) (O0 : Old Z n0 h0) (Esx1 : Exa Z h0 x1 kS1) (Fcx1 : Fld Z h0 x1 kS1 "coder" "B" (.int 0)) (Fvx1 : Fld Z h0 x1 kS1 "value" "[B" (.ref t1)) (Vsx1 : Arv Z h0 t1 k1 .byte (0 : Int32) [] (.int 0)) (Eb : Exa Z h0 a1 kS2) (Fbv : Fld Z h0 a1 kS0 "value" "[B" (.ref d1)) (Fbc : Fld Z h0 a1 kS0 "coder" "B" (.int 0)) (Fbn : Fld Z h0 a1 kS0 "count" "I" (.int 0)) (Vb : Arv Z h0 d1 kd .byte (16 : Int32) [(.int 0), (.int 0), (.int 0), (.int 0), (.int 0), (.int 0), (.int 0), (.int 0), (.int 0), (.int 0), (.int 0), (.int 0), (.int 0), (.int 0), (.int 0), (.int 0)] (.int 0)) (SZc : Sta Z Z.heap kS1 "COMPACT_STRINGS" "Z" (.int z0)) (hz0 : ¬ z0 = 0) (ga : n0 ≤ a1) (gd : n0 ≤ d1) (ned : t1 ≠ d1) :
  OwnM l Z h0 (⟨kS2, "append", "(Ljava/lang/String;)Ljava/lang/StringBuilder;"⟩ : MethodName) (Jvm.Cond.code (⟨kS2, "append", "(Ljava/lang/String;)Ljava/lang/StringBuilder;"⟩ : MethodName) jdk_67_method_7_code 2 (some (.object kS2)) :: ws) (RM 4 0 0 61) #[(.ref a1), (.ref x1)] (Qrm_sa_0_0_16 Z x1 t1 k1 a1 d1 kd z0 h0 n0) := by
 refine MetFree.of_bodySF (plainFor_of_name pn_3) hisR ?_
 intro p e s m args below meth c s₁ Bd hml0 hP hK
 obtain ⟨rfl, hZ, hh⟩ := hP
 have hx := Bd.exec
 have hby := Bd.bytes
 have hml : c.maxLocals = 2 := hml0
 have hown : s.vm.findClass kS2 = some m.cls := findClass_of_methodNamed Bd.named
 have hnm := (name_of_methodNamed Bd.named Bd.method).1
 have X0 : Stand p l e (RM 4 0 0 61) s m #[(.ref a1), (.ref x1)] below meth c s₁ [] 0 0 := Stand.of_body Bd
 have e0 : s₁.heap = h0 := by rw [← hh, Bd.state]; rfl
 have N0 := Fr.nil n0
 have pre0 : ∀ t, GO p e below s₁ (mkF m 0 #[.val (.ref a1), .val (.ref x1)] []) t → GO p e below s₁ (entryFrame m #[(.ref a1), (.ref x1)] 2) t := fun t k => castTop (ef_rm_sa_0_0_16 m a1 x1) k
 have lt_Esx1 := ltA Esx1.lt
 have lt_Fcx1 := ltA Fcx1.lt
 have lt_Fvx1 := ltA Fvx1.lt
 have lt_Vsx1 := ltA Vsx1.lt
 have lt_Eb := ltA Eb.lt
 have lt_Fbv := ltA Fbv.lt
 have lt_Fbc := ltA Fbc.lt
 have lt_Fbn := ltA Fbn.lt
 have lt_Vb := ltA Vb.lt
 -- pc 2: AbstractStringBuilder.append by rm_aa_0_0_16
 obtain ⟨_, _, ⟨T96, L96, k96, n96⟩, -, X96, ⟨Lc96, hQ96, l96, y96, z96⟩, st96⟩ := superBack X0 hx hZ (y := (⟨kS0, "append", kS3⟩ : MethodName)) hown (wd hw 49 rfl) (own_sameM (y := (⟨kS0, "append", kS3⟩ : MethodName)) (wd hw 50 rfl) (wd hw 70 rfl) rfl (by decide)) (wd hw 50 rfl) (wd hw 51 rfl) (by decide) (backOf (W := 0) (rm_aa_0_0_16 l Z a0 hw [] x1 t1 k1 a1 d1 kd z0 h0 n0 (by omega) O0 Esx1 Fcx1 Fvx1 Vsx1 Eb Fbv Fbc Fbn Vb (by first | assumption | decide | omega) (by first | assumption | decide | omega) (by first | assumption | decide | omega) (by first | assumption | decide | omega) ned) hZ (wd hw 53 rfl) (wd hw 36 rfl) (by decide) (by decide)) e0 (Ins.self Eb) (g := (mkF m 2 #[.val (.ref a1), .val (.ref x1)] [(.ref x1), (.ref a1)])) rfl (by rw [hml]; rfl) (wd hw 53 rfl) (argsL := [(.ref x1)]) (rest := []) (lenOf pd_10 rfl) rfl (wz rfl) (hb hby d7_2) (fun _ _ => ⟨rfl, e0, (by decide : 0 + 0 ≤ _), (by decide : 0 + 0 ≤ _)⟩)
 dsimp only [Pt.U, Pt.locs, Pt.cells, Pt.slots] at X96 l96 y96 z96 st96 hQ96
 subst l96 y96 z96
 obtain ⟨h96, e96⟩ : ∃ z, T96.heap = z := ⟨_, rfl⟩
 rw [e96] at hQ96
 obtain ⟨rfl, N96q, K96, p96_0, p96_1, p96_2, p96_3, p96_4⟩ := hQ96
 have N96 := Fr.app N0 N96q
 have ne97 : a1 ≠ x1 := ne_exa Eb Esx1 (by decide)
 have ne98 : a1 ≠ t1 := Exa.neArv Eb Vsx1 (wd hw 27 rfl)
 have ne99 : a1 ≠ d1 := Exa.neArv Eb Vb (wd hw 27 rfl)
 have ne100 : d1 ≠ x1 := Ne.symm (Exa.neArv Esx1 Vb (wd hw 2 rfl))
 have sz96 : h0.size ≤ h96.size := K96.1
 have lt96_0 := ltA p96_0.lt
 have lt96_4 := ltA p96_4.lt
 obtain ⟨fs, hr, hrun, hended, hW, hsame⟩ := X96.leave (v := some (.ref a1)) (fun h => by rw [Bd.returns] at h; cases h)
 refine ⟨_, _, pre0 _ ?_, hrun, hended, _, _, rfl, ?_, ⟨_, rfl⟩, hW, hsame.mono (by decide) (by decide)⟩
 ·show GO p e below s₁ (mkF m 0 #[.val (.ref a1), .val (.ref x1)] []) _
  refine XS.aloadN X0.here hx rfl (hb hby d7_0) rfl rfl ?_
  show GO p e below s₁ (mkF m 1 #[.val (.ref a1), .val (.ref x1)] [(.ref a1)]) _
  refine XS.aloadN X0.here hx rfl (hb hby d7_1) rfl rfl ?_
  show GO p e below s₁ (mkF m 2 #[.val (.ref a1), .val (.ref x1)] [(.ref x1), (.ref a1)]) _
  refine st96.trans ?_
  show GO p e below T96 (mkF m 5 #[.val (.ref a1), .val (.ref x1)] [(.ref a1)]) _
  refine XS.pop X96.here hx rfl (hb hby d7_5) rfl rfl ?_
  show GO p e below T96 (mkF m 6 #[.val (.ref a1), .val (.ref x1)] []) _
  refine XS.aloadN X96.here hx rfl (hb hby d7_6) rfl rfl ?_
  show GO p e below T96 (mkF m 7 #[.val (.ref a1), .val (.ref x1)] [(.ref a1)]) _
  exact retOut X96 hx Bd.returns rfl (Or.inr (Or.inr (Or.inr (Or.inr ⟨rfl, rfl, rfl⟩)))) (hb hby d7_7) hr
 ·show Qrm_sa_0_0_16 Z x1 t1 k1 a1 d1 kd z0 h0 n0 _ T96.heap _
  rw [e96]
  exact ⟨rfl, N96, ((Keep.refl h0 [a1, d1]).trans K96 (allS (P := fun x => x ∈ _ ∨ _) (Or.inl (List.mem_of_getElem? (i := 0) rfl)) (allS (P := fun x => x ∈ _ ∨ _) (Or.inl (List.mem_of_getElem? (i := 1) rfl)) all0))), p96_0, p96_1, p96_2, p96_3, p96_4⟩
def Qrm_sl1 (Z : State) (x1 : Addr) (t1 : Addr) (k1 : ClassId) (xs0 : Int32) (z0 : Int32) (h0 : Heap) (n0 : Nat) (v : Option Value) (h : Heap) (L : List Loc) : Prop := v = some (.int 1) ∧ Fr n0 L ∧ h = h0
theorem ef_rm_sl1 (m : MethodId) (x0 : Addr) : entryFrame m #[(.ref x0)] 1 = mkF m 0 #[.val (.ref x0)] [] := by first | rfl | (simp [entryFrame, mkF, argsToLocals, Value.category]; done)
theorem rm_sl1 (l : Launch) (Z : State) (a0 : Array Value) (hw : HW Z a0) (ws : List Jvm.Cond) (x1 : Addr) (t1 : Addr) (k1 : ClassId) (xs0 : Int32) (z0 : Int32) (h0 : Heap) (n0 : Nat) (Z0 : n0 ≤ h0.size) (O0 : Old Z n0 h0) (Esx1 : Exa Z h0 x1 kS1) (Fcx1 : Fld Z h0 x1 kS1 "coder" "B" (.int 0)) (Fvx1 : Fld Z h0 x1 kS1 "value" "[B" (.ref t1)) (Vsx1 : Arv Z h0 t1 k1 .byte (1 : Int32) [(.int xs0)] (.int 0)) (SZc : Sta Z Z.heap kS1 "COMPACT_STRINGS" "Z" (.int z0)) (hz0 : ¬ z0 = 0) :
  OwnM l Z h0 (⟨kS1, "length", "()I"⟩ : MethodName) (Jvm.Cond.code (⟨kS1, "length", "()I"⟩ : MethodName) jdk_42_method_54_code 1 (some .int) :: ws) (RM 1 0 0 13) #[(.ref x1)] (Qrm_sl1 Z x1 t1 k1 xs0 z0 h0 n0) := by
 refine MetFree.of_bodySF (plainFor_of_name pn_0) hisR ?_
 intro p e s m args below meth c s₁ Bd hml0 hP hK
 obtain ⟨rfl, hZ, hh⟩ := hP
 have hx := Bd.exec
 have hby := Bd.bytes
 have hml : c.maxLocals = 1 := hml0
 have hown : s.vm.findClass kS1 = some m.cls := findClass_of_methodNamed Bd.named
 have hnm := (name_of_methodNamed Bd.named Bd.method).1
 have X0 : Stand p l e (RM 1 0 0 13) s m #[(.ref x1)] below meth c s₁ [] 0 0 := Stand.of_body Bd
 have e0 : s₁.heap = h0 := by rw [← hh, Bd.state]; rfl
 have N0 := Fr.nil n0
 have pre0 : ∀ t, GO p e below s₁ (mkF m 0 #[.val (.ref x1)] []) t → GO p e below s₁ (entryFrame m #[(.ref x1)] 1) t := fun t k => castTop (ef_rm_sl1 m x1) k
 have lt_Esx1 := ltA Esx1.lt
 have lt_Fcx1 := ltA Fcx1.lt
 have lt_Fvx1 := ltA Fvx1.lt
 have lt_Vsx1 := ltA Vsx1.lt
 obtain ⟨T101, X101, e101, st101⟩ := getF X0 hx hZ hown (host := "") (Or.inl (wd hw 20 rfl)) Via.refl e0 Fvx1 (g := (mkF m 1 #[.val (.ref x1)] [(.ref x1)])) rfl rfl (hb hby d9_1)
 obtain ⟨cl102, Ar102, -, S102, M102, -, -⟩ := id Vsx1
 -- pc 6: String.coder by rm_sc
 obtain ⟨cq103, kq103, q103a, q103b, q103c⟩ := isOf hZ e101 Esx1
 obtain ⟨_, _, ⟨T103, L103, k103, n103⟩, -, X103, ⟨Lc103, hQ103, l103, y103, z103⟩, st103⟩ := X101.virtualBack hx (y := (⟨kS1, "coder", "()B"⟩ : MethodName)) (z := (⟨kS1, "coder", "()B"⟩ : MethodName)) hown (mvT hZ (wd hw 59 rfl)) (mvT hZ (wd hw 60 rfl)) (notFace_of_selects (args := #[]) (mvT hZ (wd hw 62 rfl))) (mvT hZ (wd hw 62 rfl)) (mvT hZ (wd hw 61 rfl)) (by decide) (backOf (W := 1) (rm_sc l Z a0 hw [] x1 z0 h0 n0 (by omega) O0 Fcx1 (by first | assumption | decide | omega) (by first | assumption | decide | omega)) hZ (wd hw 63 rfl) (wd hw 3 rfl) (by decide) (by decide)) q103a q103c (g := (mkF m 6 #[.val (.ref x1)] [(.ref x1), (.int 1)])) rfl (by rw [hml]; rfl) (Steps.refl _) (argsL := []) (rest := [(.int 1)]) (lenOf pd_3 rfl) rfl (wz rfl) (hb hby d9_6) (fun _ _ => ⟨rfl, e101, (by decide : 0 + 0 ≤ _), (by decide : 0 + 0 ≤ _)⟩)
 dsimp only [Pt.U, Pt.locs, Pt.cells, Pt.slots] at X103 l103 y103 z103 st103 hQ103
 subst l103 y103 z103
 obtain ⟨rfl, N103q, e103⟩ := hQ103
 have N103 := Fr.app N0 N103q
 obtain ⟨fs, hr, hrun, hended, hW, hsame⟩ := X103.leave (v := some (.int 1)) (fun h => by rw [Bd.returns] at h; cases h)
 refine ⟨_, _, pre0 _ ?_, hrun, hended, _, _, rfl, ?_, ⟨_, rfl⟩, hW, hsame.mono (by decide) (by decide)⟩
 ·show GO p e below s₁ (mkF m 0 #[.val (.ref x1)] []) _
  refine XS.aloadN X0.here hx rfl (hb hby d9_0) rfl rfl ?_
  show GO p e below s₁ (mkF m 1 #[.val (.ref x1)] [(.ref x1)]) _
  refine st101 _ ?_
  show GO p e below T101 (mkF m 4 #[.val (.ref x1)] [(.ref t1)]) _
  refine X101.arraylength hx (by rw [e101]; exact Ar102.1) (State.isArrayOf_alike hZ.alike Ar102.2.1) (g := (mkF m 4 #[.val (.ref x1)] [(.ref t1)])) rfl rfl (hb hby d9_4) _ ?_
  rw [len_of S102 M102]
  show GO p e below T101 (mkF m 5 #[.val (.ref x1)] [(.int 1)]) _
  refine XS.aloadN X101.here hx rfl (hb hby d9_5) rfl rfl ?_
  show GO p e below T101 (mkF m 6 #[.val (.ref x1)] [(.ref x1), (.int 1)]) _
  refine st103.trans ?_
  show GO p e below T103 (mkF m 9 #[.val (.ref x1)] [(.int 0), (.int 1)]) _
  refine XS.ishr X103.here hx rfl (hb hby d9_9) rfl ?_
  rw [show ((1 : Int32) >>> ((0 : Int32) &&& 31)) = (1 : Int32) from by decide]
  show GO p e below T103 (mkF m 10 #[.val (.ref x1)] [(.int 1)]) _
  exact retI X103 hx Bd.returns (hb hby d9_10) hr
 ·show Qrm_sl1 Z x1 t1 k1 xs0 z0 h0 n0 _ T103.heap _
  rw [e103]
  exact ⟨rfl, N103, rfl⟩
def Qrm_gb_1_0_16 (Z : State) (x1 : Addr) (t1 : Addr) (k1 : ClassId) (xs0 : Int32) (d1 : Addr) (kd : ClassId) (z0 : Int32) (h0 : Heap) (n0 : Nat) (v : Option Value) (h : Heap) (L : List Loc) : Prop := v = none ∧ Fr n0 L ∧ Keep h0 h [d1] ∧ Arv Z h d1 kd .byte (16 : Int32) [(.int xs0), (.int 0), (.int 0), (.int 0), (.int 0), (.int 0), (.int 0), (.int 0), (.int 0), (.int 0), (.int 0), (.int 0), (.int 0), (.int 0), (.int 0), (.int 0)] (.int 0)
theorem ef_rm_gb_1_0_16 (m : MethodId) (x0 : Addr) (x1 : Addr) (x2 : Int32) (x3 : Int32) : entryFrame m #[(.ref x0), (.ref x1), (.int x2), (.int x3)] 4 = mkF m 0 (la10 x0 x1 x2 x3) [] := by first | rfl | (simp [entryFrame, mkF, argsToLocals, Value.category]; done)
theorem rm_gb_1_0_16 (l : Launch) (Z : State) (a0 : Array Value) (hw : HW Z a0) (ws : List Jvm.Cond) (x1 : Addr) (t1 : Addr) (k1 : ClassId) (xs0 : Int32) (d1 : Addr) (kd : ClassId) (z0 : Int32) (h0 : Heap) (n0 : Nat) (Z0 : n0 ≤ h0.size) (O0 : Old Z n0 h0) (Esx1 : Exa Z h0 x1 kS1) (Fcx1 : Fld Z h0 x1 kS1 "coder" "B" (.int 0)) (Fvx1 : Fld Z h0 x1 kS1 "value" "[B" (.ref t1)) (Vsx1 : Arv Z h0 t1 k1 .byte (1 : Int32) [(.int xs0)] (.int 0)) (Vd : Arv Z h0 d1 kd .byte (16 : Int32) [(.int 0), (.int 0), (.int 0), (.int 0), (.int 0), (.int 0), (.int 0), (.int 0), (.int 0), (.int 0), (.int 0), (.int 0), (.int 0), (.int 0), (.int 0), (.int 0)] (.int 0)) (SZc : Sta Z Z.heap kS1 "COMPACT_STRINGS" "Z" (.int z0)) (hz0 : ¬ z0 = 0) (gd : n0 ≤ d1) (ned : t1 ≠ d1) :
  OwnM l Z h0 (⟨kS1, "getBytes", "([BIB)V"⟩ : MethodName) (Jvm.Cond.code (⟨kS1, "getBytes", "([BIB)V"⟩ : MethodName) jdk_42_method_147_code 4 none :: ws) (RM 1 0 0 18) #[(.ref x1), (.ref d1), (.int 0), (.int 0)] (Qrm_gb_1_0_16 Z x1 t1 k1 xs0 d1 kd z0 h0 n0) := by
 refine MetFree.of_bodySF (plainFor_of_name pn_0) hisR ?_
 intro p e s m args below meth c s₁ Bd hml0 hP hK
 obtain ⟨rfl, hZ, hh⟩ := hP
 have hx := Bd.exec
 have hby := Bd.bytes
 have hml : c.maxLocals = 4 := hml0
 have hown : s.vm.findClass kS1 = some m.cls := findClass_of_methodNamed Bd.named
 have hnm := (name_of_methodNamed Bd.named Bd.method).1
 have X0 : Stand p l e (RM 1 0 0 18) s m #[(.ref x1), (.ref d1), (.int 0), (.int 0)] below meth c s₁ [] 0 0 := Stand.of_body Bd
 have e0 : s₁.heap = h0 := by rw [← hh, Bd.state]; rfl
 have N0 := Fr.nil n0
 have pre0 : ∀ t, GO p e below s₁ (mkF m 0 (la10 x1 d1 (0 : Int32) (0 : Int32)) []) t → GO p e below s₁ (entryFrame m #[(.ref x1), (.ref d1), (.int 0), (.int 0)] 4) t := fun t k => castTop (ef_rm_gb_1_0_16 m x1 d1 ((0 : Int32)) ((0 : Int32))) k
 have lt_Esx1 := ltA Esx1.lt
 have lt_Fcx1 := ltA Fcx1.lt
 have lt_Fvx1 := ltA Fvx1.lt
 have lt_Vsx1 := ltA Vsx1.lt
 have lt_Vd := ltA Vd.lt
 -- pc 1: String.coder by rm_sc
 obtain ⟨cq104, kq104, q104a, q104b, q104c⟩ := isOf hZ e0 Esx1
 obtain ⟨_, _, ⟨T104, L104, k104, n104⟩, -, X104, ⟨Lc104, hQ104, l104, y104, z104⟩, st104⟩ := X0.virtualBack hx (y := (⟨kS1, "coder", "()B"⟩ : MethodName)) (z := (⟨kS1, "coder", "()B"⟩ : MethodName)) hown (mvT hZ (wd hw 59 rfl)) (mvT hZ (wd hw 60 rfl)) (notFace_of_selects (args := #[]) (mvT hZ (wd hw 62 rfl))) (mvT hZ (wd hw 62 rfl)) (mvT hZ (wd hw 61 rfl)) (by decide) (backOf (W := 0) (rm_sc l Z a0 hw [] x1 z0 h0 n0 (by omega) O0 Fcx1 (by first | assumption | decide | omega) (by first | assumption | decide | omega)) hZ (wd hw 63 rfl) (wd hw 3 rfl) (by decide) (by decide)) q104a q104c (g := (mkF m 1 (la10 x1 d1 (0 : Int32) (0 : Int32)) [(.ref x1)])) rfl (by rw [hml]; rfl) (Steps.refl _) (argsL := []) (rest := []) (lenOf pd_3 rfl) rfl (wz rfl) (hb hby d14_1) (fun _ _ => ⟨rfl, e0, (by decide : 0 + 0 ≤ _), (by decide : 0 + 0 ≤ _)⟩)
 dsimp only [Pt.U, Pt.locs, Pt.cells, Pt.slots] at X104 l104 y104 z104 st104 hQ104
 subst l104 y104 z104
 obtain ⟨rfl, N104q, e104⟩ := hQ104
 have N104 := Fr.app N0 N104q
 obtain ⟨T105, X105, e105, st105⟩ := getF X104 hx hZ hown (host := "") (Or.inl (wd hw 20 rfl)) Via.refl e104 Fvx1 (g := (mkF m 9 (la10 x1 d1 (0 : Int32) (0 : Int32)) [(.ref x1)])) rfl rfl (hb hby d14_9)
 obtain ⟨T106, X106, e106, st106⟩ := getF X105 hx hZ hown (host := "") (Or.inl (wd hw 20 rfl)) Via.refl e105 Fvx1 (g := (mkF m 18 (la10 x1 d1 (0 : Int32) (0 : Int32)) [(.ref x1), (.int 0), (.ref d1), (.int 0), (.ref t1)])) rfl rfl (hb hby d14_18)
 obtain ⟨cl107, Ar107, -, S107, M107, -, -⟩ := id Vsx1
 obtain ⟨T108, h108, L108, X108, e108, N108, K108, A108, st108⟩ := cpA X106 hx hZ hown (wd hw 88 rfl) (wd hw 91 rfl) (wd hw 89 rfl) (wd hw 90 rfl) e106 Vsx1 Vd (us := [(.int xs0)]) (Or.inl ⟨rfl, rfl⟩) (by decide) (by decide) (by decide) (by decide) (by decide) rfl (Nat.le_of_ble_eq_true rfl) N104 (by omega) (g := (mkF m 22 (la10 x1 d1 (0 : Int32) (0 : Int32)) [(.int 1), (.int 0), (.ref d1), (.int 0), (.ref t1)])) rfl (by rw [hml]; rfl) rfl (hb hby d14_22) (by decide) (W := 0) (wz rfl) (by decide)
 have sz108 : h0.size ≤ h108.size := K108.1
 have V108 : Arv Z h108 d1 kd .byte (16 : Int32) [(.int xs0), (.int 0), (.int 0), (.int 0), (.int 0), (.int 0), (.int 0), (.int 0), (.int 0), (.int 0), (.int 0), (.int 0), (.int 0), (.int 0), (.int 0), (.int 0)] (.int 0) := A108
 obtain ⟨fs, hr, hrun, hended, hW, hsame⟩ := X108.leave (v := none) (fun _ => rfl)
 refine ⟨_, _, pre0 _ ?_, hrun, hended, _, _, rfl, ?_, ⟨_, rfl⟩, hW, hsame.mono (by decide) (by decide)⟩
 ·show GO p e below s₁ (mkF m 0 (la10 x1 d1 (0 : Int32) (0 : Int32)) []) _
  refine XS.aloadN X0.here hx rfl (hb hby d14_0) rfl rfl ?_
  show GO p e below s₁ (mkF m 1 (la10 x1 d1 (0 : Int32) (0 : Int32)) [(.ref x1)]) _
  refine st104.trans ?_
  show GO p e below T104 (mkF m 4 (la10 x1 d1 (0 : Int32) (0 : Int32)) [(.int 0)]) _
  refine XS.iloadN X104.here hx rfl (hb hby d14_4) rfl ?_
  show GO p e below T104 (mkF m 5 (la10 x1 d1 (0 : Int32) (0 : Int32)) [(.int 0), (.int 0)]) _
  refine XS.icmpNo X104.here hx rfl (hb hby d14_5) rfl (teq (rfl : (0 : Int32) = (0 : Int32))).2 ?_
  show GO p e below T104 (mkF m 8 (la10 x1 d1 (0 : Int32) (0 : Int32)) []) _
  refine XS.aloadN X104.here hx rfl (hb hby d14_8) rfl rfl ?_
  show GO p e below T104 (mkF m 9 (la10 x1 d1 (0 : Int32) (0 : Int32)) [(.ref x1)]) _
  refine st105 _ ?_
  show GO p e below T105 (mkF m 12 (la10 x1 d1 (0 : Int32) (0 : Int32)) [(.ref t1)]) _
  refine XS.iconst X105.here hx rfl (hb hby d14_12) ?_
  show GO p e below T105 (mkF m 13 (la10 x1 d1 (0 : Int32) (0 : Int32)) [(.int 0), (.ref t1)]) _
  refine XS.aloadN X105.here hx rfl (hb hby d14_13) rfl rfl ?_
  show GO p e below T105 (mkF m 14 (la10 x1 d1 (0 : Int32) (0 : Int32)) [(.ref d1), (.int 0), (.ref t1)]) _
  refine XS.iloadN X105.here hx rfl (hb hby d14_14) rfl ?_
  show GO p e below T105 (mkF m 15 (la10 x1 d1 (0 : Int32) (0 : Int32)) [(.int 0), (.ref d1), (.int 0), (.ref t1)]) _
  refine XS.iloadN X105.here hx rfl (hb hby d14_15) rfl ?_
  show GO p e below T105 (mkF m 16 (la10 x1 d1 (0 : Int32) (0 : Int32)) [(.int 0), (.int 0), (.ref d1), (.int 0), (.ref t1)]) _
  refine XS.ishl X105.here hx rfl (hb hby d14_16) rfl ?_
  rw [show ((0 : Int32) <<< ((0 : Int32) &&& 31)) = (0 : Int32) from by decide]
  show GO p e below T105 (mkF m 17 (la10 x1 d1 (0 : Int32) (0 : Int32)) [(.int 0), (.ref d1), (.int 0), (.ref t1)]) _
  refine XS.aloadN X105.here hx rfl (hb hby d14_17) rfl rfl ?_
  show GO p e below T105 (mkF m 18 (la10 x1 d1 (0 : Int32) (0 : Int32)) [(.ref x1), (.int 0), (.ref d1), (.int 0), (.ref t1)]) _
  refine st106 _ ?_
  show GO p e below T106 (mkF m 21 (la10 x1 d1 (0 : Int32) (0 : Int32)) [(.ref t1), (.int 0), (.ref d1), (.int 0), (.ref t1)]) _
  refine X106.arraylength hx (by rw [e106]; exact Ar107.1) (State.isArrayOf_alike hZ.alike Ar107.2.1) (g := (mkF m 21 (la10 x1 d1 (0 : Int32) (0 : Int32)) [(.ref t1), (.int 0), (.ref d1), (.int 0), (.ref t1)])) rfl rfl (hb hby d14_21) _ ?_
  rw [len_of S107 M107]
  show GO p e below T106 (mkF m 22 (la10 x1 d1 (0 : Int32) (0 : Int32)) [(.int 1), (.int 0), (.ref d1), (.int 0), (.ref t1)]) _
  refine st108 _ ?_
  show GO p e below T108 (mkF m 25 (la10 x1 d1 (0 : Int32) (0 : Int32)) []) _
  refine XS.goto X108.here hx rfl (pc0 := 25) (pc' := 43) rfl (hb hby d14_25) (by decide) (by decide) ?_
  show GO p e below T108 (mkF m 43 (la10 x1 d1 (0 : Int32) (0 : Int32)) []) _
  exact X108.returnOut hx Bd.returns (hb hby d14_43) hr
 ·show Qrm_gb_1_0_16 Z x1 t1 k1 xs0 d1 kd z0 h0 n0 _ T108.heap _
  rw [e108]
  exact ⟨rfl, N108, ((Keep.refl h0 [d1]).trans K108 (allS (P := fun x => x ∈ _ ∨ _) (Or.inl (List.mem_of_getElem? (i := 0) rfl)) all0)), V108⟩
def Qrm_ps_1_0_16 (Z : State) (x1 : Addr) (t1 : Addr) (k1 : ClassId) (xs0 : Int32) (a1 : Addr) (d1 : Addr) (kd : ClassId) (z0 : Int32) (h0 : Heap) (n0 : Nat) (v : Option Value) (h : Heap) (L : List Loc) : Prop := v = none ∧ Fr n0 L ∧ Keep h0 h [d1] ∧ Arv Z h d1 kd .byte (16 : Int32) [(.int xs0), (.int 0), (.int 0), (.int 0), (.int 0), (.int 0), (.int 0), (.int 0), (.int 0), (.int 0), (.int 0), (.int 0), (.int 0), (.int 0), (.int 0), (.int 0)] (.int 0)
theorem ef_rm_ps_1_0_16 (m : MethodId) (x0 : Addr) (x1 : Int32) (x2 : Addr) : entryFrame m #[(.ref x0), (.int x1), (.ref x2)] 3 = mkF m 0 (la7 x0 x1 x2) [] := by first | rfl | (simp [entryFrame, mkF, argsToLocals, Value.category]; done)
theorem rm_ps_1_0_16 (l : Launch) (Z : State) (a0 : Array Value) (hw : HW Z a0) (ws : List Jvm.Cond) (x1 : Addr) (t1 : Addr) (k1 : ClassId) (xs0 : Int32) (a1 : Addr) (d1 : Addr) (kd : ClassId) (z0 : Int32) (h0 : Heap) (n0 : Nat) (Z0 : n0 ≤ h0.size) (O0 : Old Z n0 h0) (Esx1 : Exa Z h0 x1 kS1) (Fcx1 : Fld Z h0 x1 kS1 "coder" "B" (.int 0)) (Fvx1 : Fld Z h0 x1 kS1 "value" "[B" (.ref t1)) (Vsx1 : Arv Z h0 t1 k1 .byte (1 : Int32) [(.int xs0)] (.int 0)) (Eb : Exa Z h0 a1 kS2) (Fbv : Fld Z h0 a1 kS0 "value" "[B" (.ref d1)) (Fbc : Fld Z h0 a1 kS0 "coder" "B" (.int 0)) (Fbn : Fld Z h0 a1 kS0 "count" "I" (.int 0)) (Vb : Arv Z h0 d1 kd .byte (16 : Int32) [(.int 0), (.int 0), (.int 0), (.int 0), (.int 0), (.int 0), (.int 0), (.int 0), (.int 0), (.int 0), (.int 0), (.int 0), (.int 0), (.int 0), (.int 0), (.int 0)] (.int 0)) (SZc : Sta Z Z.heap kS1 "COMPACT_STRINGS" "Z" (.int z0)) (hz0 : ¬ z0 = 0) (gd : n0 ≤ d1) (ned : t1 ≠ d1) :
  OwnM l Z h0 (⟨kS0, "putStringAt", "(ILjava/lang/String;)V"⟩ : MethodName) (Jvm.Cond.code (⟨kS0, "putStringAt", "(ILjava/lang/String;)V"⟩ : MethodName) jdk_68_method_73_code 3 none :: ws) (RM 2 0 0 33) #[(.ref a1), (.int 0), (.ref x1)] (Qrm_ps_1_0_16 Z x1 t1 k1 xs0 a1 d1 kd z0 h0 n0) := by
 refine MetFree.of_bodySF (plainFor_of_name pn_2) hisR ?_
 intro p e s m args below meth c s₁ Bd hml0 hP hK
 obtain ⟨rfl, hZ, hh⟩ := hP
 have hx := Bd.exec
 have hby := Bd.bytes
 have hml : c.maxLocals = 3 := hml0
 have hown : s.vm.findClass kS0 = some m.cls := findClass_of_methodNamed Bd.named
 have hnm := (name_of_methodNamed Bd.named Bd.method).1
 have X0 : Stand p l e (RM 2 0 0 33) s m #[(.ref a1), (.int 0), (.ref x1)] below meth c s₁ [] 0 0 := Stand.of_body Bd
 have e0 : s₁.heap = h0 := by rw [← hh, Bd.state]; rfl
 have N0 := Fr.nil n0
 have pre0 : ∀ t, GO p e below s₁ (mkF m 0 (la7 a1 (0 : Int32) x1) []) t → GO p e below s₁ (entryFrame m #[(.ref a1), (.int 0), (.ref x1)] 3) t := fun t k => castTop (ef_rm_ps_1_0_16 m a1 ((0 : Int32)) x1) k
 have lt_Esx1 := ltA Esx1.lt
 have lt_Fcx1 := ltA Fcx1.lt
 have lt_Fvx1 := ltA Fvx1.lt
 have lt_Vsx1 := ltA Vsx1.lt
 have lt_Eb := ltA Eb.lt
 have lt_Fbv := ltA Fbv.lt
 have lt_Fbc := ltA Fbc.lt
 have lt_Fbn := ltA Fbn.lt
 have lt_Vb := ltA Vb.lt
 -- pc 2: AbstractStringBuilder.inflateIfNeededFor by rm_inf
 obtain ⟨cq109, q109a, q109b⟩ := Eb.cell
 obtain ⟨_, _, ⟨T109, L109, k109, n109⟩, -, X109, ⟨Lc109, hQ109, l109, y109, z109⟩, st109⟩ := X0.privateBack hx (y := (⟨kS0, "inflateIfNeededFor", "(Ljava/lang/String;)V"⟩ : MethodName)) hown (mvT hZ (wd hw 77 rfl)) (mvT hZ (wd hw 78 rfl)) (mvT hZ (own_selfsel (wd hw 80 rfl) (wd hw 79 rfl) (wd hw 78 rfl) (by decide))) (Cond.privateMethod_at (mvP hZ (wd hw 79 rfl) (args := #[]))) (mvT hZ (wd hw 81 rfl)) (by decide) (backOf (W := 0) (rm_inf l Z a0 hw [] a1 x1 z0 h0 n0 (by omega) O0 Fbc Esx1 Fcx1 (by first | assumption | decide | omega) (by first | assumption | decide | omega)) hZ (wd hw 81 rfl) (wd hw 36 rfl) (by decide) (by decide)) (g := (mkF m 2 (la7 a1 (0 : Int32) x1) [(.ref x1), (.ref a1)])) rfl (by rw [hml]; rfl) (Steps.refl _) (a := a1) (by rw [e0]; exact q109a) q109b (argsL := [(.ref x1)]) (rest := []) (lenOf pd_6 rfl) rfl (wz rfl) (hb hby d12_2) (fun _ _ => ⟨rfl, e0, (by decide : 0 + 0 ≤ _), (by decide : 0 + 0 ≤ _)⟩)
 dsimp only [Pt.U, Pt.locs, Pt.cells, Pt.slots] at X109 l109 y109 z109 st109 hQ109
 subst l109 y109 z109
 obtain ⟨rfl, N109q, e109⟩ := hQ109
 have N109 := Fr.app N0 N109q
 obtain ⟨T110, X110, e110, st110⟩ := getF X109 hx hZ hown (host := "") (Or.inl (wd hw 40 rfl)) Via.refl e109 Fbv (g := (mkF m 7 (la7 a1 (0 : Int32) x1) [(.ref a1), (.ref x1)])) rfl rfl (hb hby d12_7)
 obtain ⟨T111, X111, e111, st111⟩ := getF X110 hx hZ hown (host := "") (Or.inl (wd hw 42 rfl)) Via.refl e110 Fbc (g := (mkF m 12 (la7 a1 (0 : Int32) x1) [(.ref a1), (.int 0), (.ref d1), (.ref x1)])) rfl rfl (hb hby d12_12)
 -- pc 15: String.getBytes by rm_gb_1_0_16
 obtain ⟨cq112, kq112, q112a, q112b, q112c⟩ := isOf hZ e111 Esx1
 obtain ⟨_, _, ⟨T112, L112, k112, n112⟩, -, X112, ⟨Lc112, hQ112, l112, y112, z112⟩, st112⟩ := X111.virtualBack hx (y := (⟨kS1, "getBytes", "([BIB)V"⟩ : MethodName)) (z := (⟨kS1, "getBytes", "([BIB)V"⟩ : MethodName)) hown (mvT hZ (wd hw 83 rfl)) (mvT hZ (wd hw 84 rfl)) (notFace_of_selects (args := #[]) (mvT hZ (wd hw 86 rfl))) (mvT hZ (wd hw 86 rfl)) (mvT hZ (wd hw 85 rfl)) (by decide) (backOf (W := 0) (rm_gb_1_0_16 l Z a0 hw [] x1 t1 k1 xs0 d1 kd z0 h0 n0 (by omega) O0 Esx1 Fcx1 Fvx1 Vsx1 Vb (by first | assumption | decide | omega) (by first | assumption | decide | omega) (by first | assumption | decide | omega) ned) hZ (wd hw 87 rfl) (wd hw 3 rfl) (by decide) (by decide)) q112a q112c (g := (mkF m 15 (la7 a1 (0 : Int32) x1) [(.int 0), (.int 0), (.ref d1), (.ref x1)])) rfl (by rw [hml]; rfl) (Steps.refl _) (argsL := [(.ref d1), (.int 0), (.int 0)]) (rest := []) (lenOf pd_7 rfl) rfl (wz rfl) (hb hby d12_15) (fun _ _ => ⟨rfl, e111, (by decide : 0 + 0 ≤ _), (by decide : 0 + 0 ≤ _)⟩)
 dsimp only [Pt.U, Pt.locs, Pt.cells, Pt.slots] at X112 l112 y112 z112 st112 hQ112
 subst l112 y112 z112
 obtain ⟨h112, e112⟩ : ∃ z, T112.heap = z := ⟨_, rfl⟩
 rw [e112] at hQ112
 obtain ⟨rfl, N112q, K112, p112_0⟩ := hQ112
 have N112 := Fr.app N109 N112q
 have sz112 : h0.size ≤ h112.size := K112.1
 have lt112_0 := ltA p112_0.lt
 obtain ⟨fs, hr, hrun, hended, hW, hsame⟩ := X112.leave (v := none) (fun _ => rfl)
 refine ⟨_, _, pre0 _ ?_, hrun, hended, _, _, rfl, ?_, ⟨_, rfl⟩, hW, hsame.mono (by decide) (by decide)⟩
 ·show GO p e below s₁ (mkF m 0 (la7 a1 (0 : Int32) x1) []) _
  refine XS.aloadN X0.here hx rfl (hb hby d12_0) rfl rfl ?_
  show GO p e below s₁ (mkF m 1 (la7 a1 (0 : Int32) x1) [(.ref a1)]) _
  refine XS.aloadN X0.here hx rfl (hb hby d12_1) rfl rfl ?_
  show GO p e below s₁ (mkF m 2 (la7 a1 (0 : Int32) x1) [(.ref x1), (.ref a1)]) _
  refine st109.trans ?_
  show GO p e below T109 (mkF m 5 (la7 a1 (0 : Int32) x1) []) _
  refine XS.aloadN X109.here hx rfl (hb hby d12_5) rfl rfl ?_
  show GO p e below T109 (mkF m 6 (la7 a1 (0 : Int32) x1) [(.ref x1)]) _
  refine XS.aloadN X109.here hx rfl (hb hby d12_6) rfl rfl ?_
  show GO p e below T109 (mkF m 7 (la7 a1 (0 : Int32) x1) [(.ref a1), (.ref x1)]) _
  refine st110 _ ?_
  show GO p e below T110 (mkF m 10 (la7 a1 (0 : Int32) x1) [(.ref d1), (.ref x1)]) _
  refine XS.iloadN X110.here hx rfl (hb hby d12_10) rfl ?_
  show GO p e below T110 (mkF m 11 (la7 a1 (0 : Int32) x1) [(.int 0), (.ref d1), (.ref x1)]) _
  refine XS.aloadN X110.here hx rfl (hb hby d12_11) rfl rfl ?_
  show GO p e below T110 (mkF m 12 (la7 a1 (0 : Int32) x1) [(.ref a1), (.int 0), (.ref d1), (.ref x1)]) _
  refine st111 _ ?_
  show GO p e below T111 (mkF m 15 (la7 a1 (0 : Int32) x1) [(.int 0), (.int 0), (.ref d1), (.ref x1)]) _
  refine st112.trans ?_
  show GO p e below T112 (mkF m 18 (la7 a1 (0 : Int32) x1) []) _
  exact X112.returnOut hx Bd.returns (hb hby d12_18) hr
 ·show Qrm_ps_1_0_16 Z x1 t1 k1 xs0 a1 d1 kd z0 h0 n0 _ T112.heap _
  rw [e112]
  exact ⟨rfl, N112, ((Keep.refl h0 [d1]).trans K112 (allS (P := fun x => x ∈ _ ∨ _) (Or.inl (List.mem_of_getElem? (i := 0) rfl)) all0)), p112_0⟩
def Qrm_aa_1_0_16 (Z : State) (x1 : Addr) (t1 : Addr) (k1 : ClassId) (xs0 : Int32) (a1 : Addr) (d1 : Addr) (kd : ClassId) (z0 : Int32) (h0 : Heap) (n0 : Nat) (v : Option Value) (h : Heap) (L : List Loc) : Prop := v = some (.ref a1) ∧ Fr n0 L ∧ Keep h0 h [a1, d1] ∧ Exa Z h a1 kS2 ∧ Fld Z h a1 kS0 "value" "[B" (.ref d1) ∧ Fld Z h a1 kS0 "coder" "B" (.int 0) ∧ Fld Z h a1 kS0 "count" "I" (.int 1) ∧ Arv Z h d1 kd .byte (16 : Int32) [(.int xs0), (.int 0), (.int 0), (.int 0), (.int 0), (.int 0), (.int 0), (.int 0), (.int 0), (.int 0), (.int 0), (.int 0), (.int 0), (.int 0), (.int 0), (.int 0)] (.int 0)
theorem ef_rm_aa_1_0_16 (m : MethodId) (x0 : Addr) (x1 : Addr) : entryFrame m #[(.ref x0), (.ref x1)] 3 = mkF m 0 (la11 x0 x1) [] := by first | rfl | (simp [entryFrame, mkF, argsToLocals, Value.category]; done)
theorem rm_aa_1_0_16 (l : Launch) (Z : State) (a0 : Array Value) (hw : HW Z a0) (ws : List Jvm.Cond) (x1 : Addr) (t1 : Addr) (k1 : ClassId) (xs0 : Int32) (a1 : Addr) (d1 : Addr) (kd : ClassId) (z0 : Int32) (h0 : Heap) (n0 : Nat) (Z0 : n0 ≤ h0.size) (O0 : Old Z n0 h0) (Esx1 : Exa Z h0 x1 kS1) (Fcx1 : Fld Z h0 x1 kS1 "coder" "B" (.int 0)) (Fvx1 : Fld Z h0 x1 kS1 "value" "[B" (.ref t1)) (Vsx1 : Arv Z h0 t1 k1 .byte (1 : Int32) [(.int xs0)] (.int 0)) (Eb : Exa Z h0 a1 kS2) (Fbv : Fld Z h0 a1 kS0 "value" "[B" (.ref d1)) (Fbc : Fld Z h0 a1 kS0 "coder" "B" (.int 0)) (Fbn : Fld Z h0 a1 kS0 "count" "I" (.int 0)) (Vb : Arv Z h0 d1 kd .byte (16 : Int32) [(.int 0), (.int 0), (.int 0), (.int 0), (.int 0), (.int 0), (.int 0), (.int 0), (.int 0), (.int 0), (.int 0), (.int 0), (.int 0), (.int 0), (.int 0), (.int 0)] (.int 0)) (SZc : Sta Z Z.heap kS1 "COMPACT_STRINGS" "Z" (.int z0)) (hz0 : ¬ z0 = 0) (ga : n0 ≤ a1) (gd : n0 ≤ d1) (ned : t1 ≠ d1) :
  OwnM l Z h0 (⟨kS0, "append", kS3⟩ : MethodName) (Jvm.Cond.code (⟨kS0, "append", kS3⟩ : MethodName) jdk_68_method_22_code 3 (some (.object kS0)) :: ws) (RM 3 0 0 47) #[(.ref a1), (.ref x1)] (Qrm_aa_1_0_16 Z x1 t1 k1 xs0 a1 d1 kd z0 h0 n0) := by
 refine MetFree.of_bodySF (plainFor_of_name pn_2) hisR ?_
 intro p e s m args below meth c s₁ Bd hml0 hP hK
 obtain ⟨rfl, hZ, hh⟩ := hP
 have hx := Bd.exec
 have hby := Bd.bytes
 have hml : c.maxLocals = 3 := hml0
 have hown : s.vm.findClass kS0 = some m.cls := findClass_of_methodNamed Bd.named
 have hnm := (name_of_methodNamed Bd.named Bd.method).1
 have X0 : Stand p l e (RM 3 0 0 47) s m #[(.ref a1), (.ref x1)] below meth c s₁ [] 0 0 := Stand.of_body Bd
 have e0 : s₁.heap = h0 := by rw [← hh, Bd.state]; rfl
 have N0 := Fr.nil n0
 have pre0 : ∀ t, GO p e below s₁ (mkF m 0 (la11 a1 x1) []) t → GO p e below s₁ (entryFrame m #[(.ref a1), (.ref x1)] 3) t := fun t k => castTop (ef_rm_aa_1_0_16 m a1 x1) k
 have lt_Esx1 := ltA Esx1.lt
 have lt_Fcx1 := ltA Fcx1.lt
 have lt_Fvx1 := ltA Fvx1.lt
 have lt_Vsx1 := ltA Vsx1.lt
 have lt_Eb := ltA Eb.lt
 have lt_Fbv := ltA Fbv.lt
 have lt_Fbc := ltA Fbc.lt
 have lt_Fbn := ltA Fbn.lt
 have lt_Vb := ltA Vb.lt
 -- pc 10: String.length by rm_sl1
 obtain ⟨cq113, kq113, q113a, q113b, q113c⟩ := isOf hZ e0 Esx1
 obtain ⟨_, _, ⟨T113, L113, k113, n113⟩, -, X113, ⟨Lc113, hQ113, l113, y113, z113⟩, st113⟩ := X0.virtualBack hx (y := (⟨kS1, "length", "()I"⟩ : MethodName)) (z := (⟨kS1, "length", "()I"⟩ : MethodName)) hown (mvT hZ (wd hw 54 rfl)) (mvT hZ (wd hw 55 rfl)) (notFace_of_selects (args := #[]) (mvT hZ (wd hw 57 rfl))) (mvT hZ (wd hw 57 rfl)) (mvT hZ (wd hw 56 rfl)) (by decide) (backOf (W := 0) (rm_sl1 l Z a0 hw [] x1 t1 k1 xs0 z0 h0 n0 (by omega) O0 Esx1 Fcx1 Fvx1 Vsx1 (by first | assumption | decide | omega) (by first | assumption | decide | omega)) hZ (wd hw 58 rfl) (wd hw 3 rfl) (by decide) (by decide)) q113a q113c (g := (mkF m 10 (la11 a1 x1) [(.ref x1)])) rfl (by rw [hml]; rfl) (Steps.refl _) (argsL := []) (rest := []) (lenOf pd_8 rfl) rfl (wz rfl) (hb hby d8_10) (fun _ _ => ⟨rfl, e0, (by decide : 0 + 0 ≤ _), (by decide : 0 + 0 ≤ _)⟩)
 dsimp only [Pt.U, Pt.locs, Pt.cells, Pt.slots] at X113 l113 y113 z113 st113 hQ113
 subst l113 y113 z113
 obtain ⟨rfl, N113q, e113⟩ := hQ113
 have N113 := Fr.app N0 N113q
 obtain ⟨T114, X114, e114, st114⟩ := getF X113 hx hZ hown (host := "") (Or.inl (wd hw 65 rfl)) Via.refl e113 Fbn (g := (mkF m 16 (la12 a1 x1 (1 : Int32)) [(.ref a1), (.ref a1)])) rfl rfl (hb hby d8_16)
 -- pc 21: AbstractStringBuilder.ensureCapacityInternal by rm_en_16
 obtain ⟨cq115, q115a, q115b⟩ := Eb.cell
 obtain ⟨_, _, ⟨T115, L115, k115, n115⟩, -, X115, ⟨Lc115, hQ115, l115, y115, z115⟩, st115⟩ := X114.privateBack hx (y := (⟨kS0, "ensureCapacityInternal", "(I)V"⟩ : MethodName)) hown (mvT hZ (wd hw 67 rfl)) (mvT hZ (wd hw 68 rfl)) (mvT hZ (own_selfsel (wd hw 70 rfl) (wd hw 69 rfl) (wd hw 68 rfl) (by decide))) (Cond.privateMethod_at (mvP hZ (wd hw 69 rfl) (args := #[]))) (mvT hZ (wd hw 71 rfl)) (by decide) (backOf (W := 0) (rm_en_16 l Z a0 hw [] a1 d1 kd ([(.int 0), (.int 0), (.int 0), (.int 0), (.int 0), (.int 0), (.int 0), (.int 0), (.int 0), (.int 0), (.int 0), (.int 0), (.int 0), (.int 0), (.int 0), (.int 0)]) (1 : Int32) h0 n0 (by omega) Fbv Fbc Vb (by decide)) hZ (wd hw 71 rfl) (wd hw 36 rfl) (by decide) (by decide)) (g := (mkF m 21 (la12 a1 x1 (1 : Int32)) [(.int 1), (.ref a1)])) rfl (by rw [hml]; rfl) (Steps.refl _) (a := a1) (by rw [e114]; exact q115a) q115b (argsL := [(.int 1)]) (rest := []) (lenOf pd_5 rfl) rfl (wz rfl) (hb hby d8_21) (fun _ _ => ⟨rfl, e114, (by decide : 0 + 0 ≤ _), (by decide : 0 + 0 ≤ _)⟩)
 dsimp only [Pt.U, Pt.locs, Pt.cells, Pt.slots] at X115 l115 y115 z115 st115 hQ115
 subst l115 y115 z115
 obtain ⟨rfl, N115q, e115⟩ := hQ115
 have N115 := Fr.app N113 N115q
 obtain ⟨T116, X116, e116, st116⟩ := getF X115 hx hZ hown (host := "") (Or.inl (wd hw 65 rfl)) Via.refl e115 Fbn (g := (mkF m 26 (la12 a1 x1 (1 : Int32)) [(.ref a1), (.ref a1)])) rfl rfl (hb hby d8_26)
 -- pc 30: AbstractStringBuilder.putStringAt by rm_ps_1_0_16
 obtain ⟨cq117, q117a, q117b⟩ := Eb.cell
 obtain ⟨_, _, ⟨T117, L117, k117, n117⟩, -, X117, ⟨Lc117, hQ117, l117, y117, z117⟩, st117⟩ := X116.privateBack hx (y := (⟨kS0, "putStringAt", "(ILjava/lang/String;)V"⟩ : MethodName)) hown (mvT hZ (wd hw 72 rfl)) (mvT hZ (wd hw 73 rfl)) (mvT hZ (own_selfsel (wd hw 75 rfl) (wd hw 74 rfl) (wd hw 73 rfl) (by decide))) (Cond.privateMethod_at (mvP hZ (wd hw 74 rfl) (args := #[]))) (mvT hZ (wd hw 76 rfl)) (by decide) (backOf (W := 0) (rm_ps_1_0_16 l Z a0 hw [] x1 t1 k1 xs0 a1 d1 kd z0 h0 n0 (by omega) O0 Esx1 Fcx1 Fvx1 Vsx1 Eb Fbv Fbc Fbn Vb (by first | assumption | decide | omega) (by first | assumption | decide | omega) (by first | assumption | decide | omega) ned) hZ (wd hw 76 rfl) (wd hw 36 rfl) (by decide) (by decide)) (g := (mkF m 30 (la12 a1 x1 (1 : Int32)) [(.ref x1), (.int 0), (.ref a1)])) rfl (by rw [hml]; rfl) (Steps.refl _) (a := a1) (by rw [e116]; exact q117a) q117b (argsL := [(.int 0), (.ref x1)]) (rest := []) (lenOf pd_9 rfl) rfl (wz rfl) (hb hby d8_30) (fun _ _ => ⟨rfl, e116, (by decide : 0 + 0 ≤ _), (by decide : 0 + 0 ≤ _)⟩)
 dsimp only [Pt.U, Pt.locs, Pt.cells, Pt.slots] at X117 l117 y117 z117 st117 hQ117
 subst l117 y117 z117
 obtain ⟨h117, e117⟩ : ∃ z, T117.heap = z := ⟨_, rfl⟩
 rw [e117] at hQ117
 obtain ⟨rfl, N117q, K117, p117_0⟩ := hQ117
 have N117 := Fr.app N115 N117q
 have ne118 : d1 ≠ x1 := Ne.symm (Exa.neArv Esx1 Vb (wd hw 2 rfl))
 have ne119 : d1 ≠ a1 := Ne.symm (Exa.neArv Eb Vb (wd hw 27 rfl))
 have sz117 : h0.size ≤ h117.size := K117.1
 have lt117_0 := ltA p117_0.lt
 have f120 : Fld Z h117 a1 kS0 "count" "I" (.int 0) := (Fbn.keep K117 (ninS (Ne.symm ne119) nin0))
 obtain ⟨T121, X121, e121, st121⟩ := getF X117 hx hZ hown (host := "") (Or.inl (wd hw 65 rfl)) Via.refl e117 f120 (g := (mkF m 35 (la12 a1 x1 (1 : Int32)) [(.ref a1), (.ref a1)])) rfl rfl (hb hby d8_35)
 have f122 : Exa Z h117 a1 kS2 := (Eb.keep K117)
 obtain ⟨T123, h123, X123, e123, W123, st123⟩ := putF X121 hx hZ hown (host := "") (Or.inl (wd hw 65 rfl)) Via.refl e121 f120 f122 (Or.inl (wd hw 66 rfl)) (wd hw 27 rfl) (ty := .int) (by decide) rfl rfl (g := (mkF m 40 (la12 a1 x1 (1 : Int32)) [(.int 1), (.ref a1)])) rfl rfl (hb hby d8_40)
 have N123 := Fr.snoc X123 N117 (by omega : n0 ≤ a1)
 have f124 : Exa Z h117 x1 kS1 := (Esx1.keep K117)
 have ne125 : a1 ≠ x1 := ne_exa f122 f124 (by decide)
 have f126 : Arv Z h117 t1 k1 .byte (1 : Int32) [(.int xs0)] (.int 0) := (Vsx1.keep K117 (ninS ned nin0))
 have ne127 : a1 ≠ t1 := Exa.neArv f122 f126 (wd hw 27 rfl)
 have sz123 : h117.size ≤ h123.size := Nat.le_of_eq W123.size.symm
 have f123 : Fld Z h123 a1 kS0 "count" "I" (.int 1) := f120.same W123
 have f128 : Exa Z h123 a1 kS2 := (f122.wr W123)
 have f129 : Fld Z h123 a1 kS0 "value" "[B" (.ref d1) := ((Fbv.keep K117 (ninS (Ne.symm ne119) nin0)).other W123 (Or.inr (slot_ne (Or.inl (wd hw 41 rfl)) (Or.inl (wd hw 66 rfl)) (by decide) (t := (.array .byte)) (t' := .int) (by decide) (by decide))))
 have f130 : Fld Z h123 a1 kS0 "coder" "B" (.int 0) := ((Fbc.keep K117 (ninS (Ne.symm ne119) nin0)).other W123 (Or.inr (slot_ne (Or.inl (wd hw 43 rfl)) (Or.inl (wd hw 66 rfl)) (by decide) (t := .byte) (t' := .int) (by decide) (by decide))))
 have f131 : Arv Z h123 d1 kd .byte (16 : Int32) [(.int xs0), (.int 0), (.int 0), (.int 0), (.int 0), (.int 0), (.int 0), (.int 0), (.int 0), (.int 0), (.int 0), (.int 0), (.int 0), (.int 0), (.int 0), (.int 0)] (.int 0) := (p117_0.other W123 ne119)
 obtain ⟨fs, hr, hrun, hended, hW, hsame⟩ := X123.leave (v := some (.ref a1)) (fun h => by rw [Bd.returns] at h; cases h)
 refine ⟨_, _, pre0 _ ?_, hrun, hended, _, _, rfl, ?_, ⟨_, rfl⟩, hW, hsame.mono (by decide) (by decide)⟩
 ·show GO p e below s₁ (mkF m 0 (la11 a1 x1) []) _
  refine XS.aloadN X0.here hx rfl (hb hby d8_0) rfl rfl ?_
  show GO p e below s₁ (mkF m 1 (la11 a1 x1) [(.ref x1)]) _
  refine XS.ifnonnullYes X0.here hx rfl (pc0 := 1) (pc' := 9) rfl (hb hby d8_1) rfl (by decide) (by decide) ?_
  show GO p e below s₁ (mkF m 9 (la11 a1 x1) []) _
  refine XS.aloadN X0.here hx rfl (hb hby d8_9) rfl rfl ?_
  show GO p e below s₁ (mkF m 10 (la11 a1 x1) [(.ref x1)]) _
  refine st113.trans ?_
  show GO p e below T113 (mkF m 13 (la11 a1 x1) [(.int 1)]) _
  refine XS.istoreN X113.here hx rfl (hb hby d8_13) rfl (l' := (la12 a1 x1 (1 : Int32))) rfl ?_
  show GO p e below T113 (mkF m 14 (la12 a1 x1 (1 : Int32)) []) _
  refine XS.aloadN X113.here hx rfl (hb hby d8_14) rfl rfl ?_
  show GO p e below T113 (mkF m 15 (la12 a1 x1 (1 : Int32)) [(.ref a1)]) _
  refine XS.aloadN X113.here hx rfl (hb hby d8_15) rfl rfl ?_
  show GO p e below T113 (mkF m 16 (la12 a1 x1 (1 : Int32)) [(.ref a1), (.ref a1)]) _
  refine st114 _ ?_
  show GO p e below T114 (mkF m 19 (la12 a1 x1 (1 : Int32)) [(.int 0), (.ref a1)]) _
  refine XS.iloadN X114.here hx rfl (hb hby d8_19) rfl ?_
  show GO p e below T114 (mkF m 20 (la12 a1 x1 (1 : Int32)) [(.int 1), (.int 0), (.ref a1)]) _
  refine XS.iadd X114.here hx rfl (hb hby d8_20) rfl ?_
  rw [show ((0 : Int32) + (1 : Int32)) = (1 : Int32) from by decide]
  show GO p e below T114 (mkF m 21 (la12 a1 x1 (1 : Int32)) [(.int 1), (.ref a1)]) _
  refine st115.trans ?_
  show GO p e below T115 (mkF m 24 (la12 a1 x1 (1 : Int32)) []) _
  refine XS.aloadN X115.here hx rfl (hb hby d8_24) rfl rfl ?_
  show GO p e below T115 (mkF m 25 (la12 a1 x1 (1 : Int32)) [(.ref a1)]) _
  refine XS.aloadN X115.here hx rfl (hb hby d8_25) rfl rfl ?_
  show GO p e below T115 (mkF m 26 (la12 a1 x1 (1 : Int32)) [(.ref a1), (.ref a1)]) _
  refine st116 _ ?_
  show GO p e below T116 (mkF m 29 (la12 a1 x1 (1 : Int32)) [(.int 0), (.ref a1)]) _
  refine XS.aloadN X116.here hx rfl (hb hby d8_29) rfl rfl ?_
  show GO p e below T116 (mkF m 30 (la12 a1 x1 (1 : Int32)) [(.ref x1), (.int 0), (.ref a1)]) _
  refine st117.trans ?_
  show GO p e below T117 (mkF m 33 (la12 a1 x1 (1 : Int32)) []) _
  refine XS.aloadN X117.here hx rfl (hb hby d8_33) rfl rfl ?_
  show GO p e below T117 (mkF m 34 (la12 a1 x1 (1 : Int32)) [(.ref a1)]) _
  refine XS.dup X117.here hx rfl (hb hby d8_34) rfl rfl ?_
  show GO p e below T117 (mkF m 35 (la12 a1 x1 (1 : Int32)) [(.ref a1), (.ref a1)]) _
  refine st121 _ ?_
  show GO p e below T121 (mkF m 38 (la12 a1 x1 (1 : Int32)) [(.int 0), (.ref a1)]) _
  refine XS.iloadN X121.here hx rfl (hb hby d8_38) rfl ?_
  show GO p e below T121 (mkF m 39 (la12 a1 x1 (1 : Int32)) [(.int 1), (.int 0), (.ref a1)]) _
  refine XS.iadd X121.here hx rfl (hb hby d8_39) rfl ?_
  rw [show ((0 : Int32) + (1 : Int32)) = (1 : Int32) from by decide]
  show GO p e below T121 (mkF m 40 (la12 a1 x1 (1 : Int32)) [(.int 1), (.ref a1)]) _
  refine st123 _ ?_
  show GO p e below T123 (mkF m 43 (la12 a1 x1 (1 : Int32)) []) _
  refine XS.aloadN X123.here hx rfl (hb hby d8_43) rfl rfl ?_
  show GO p e below T123 (mkF m 44 (la12 a1 x1 (1 : Int32)) [(.ref a1)]) _
  exact retOut X123 hx Bd.returns rfl (Or.inr (Or.inr (Or.inr (Or.inr ⟨rfl, rfl, rfl⟩)))) (hb hby d8_44) hr
 ·show Qrm_aa_1_0_16 Z x1 t1 k1 xs0 a1 d1 kd z0 h0 n0 _ T123.heap _
  rw [e123]
  exact ⟨rfl, N123, (((Keep.refl h0 [a1, d1]).trans K117 (allS (P := fun x => x ∈ _ ∨ _) (Or.inl (List.mem_of_getElem? (i := 1) rfl)) all0)).wr W123 (Or.inl (List.mem_of_getElem? (i := 0) rfl))), f128, f129, f130, f123, f131⟩
def Qrm_sa_1_0_16 (Z : State) (x1 : Addr) (t1 : Addr) (k1 : ClassId) (xs0 : Int32) (a1 : Addr) (d1 : Addr) (kd : ClassId) (z0 : Int32) (h0 : Heap) (n0 : Nat) (v : Option Value) (h : Heap) (L : List Loc) : Prop := v = some (.ref a1) ∧ Fr n0 L ∧ Keep h0 h [a1, d1] ∧ Exa Z h a1 kS2 ∧ Fld Z h a1 kS0 "value" "[B" (.ref d1) ∧ Fld Z h a1 kS0 "coder" "B" (.int 0) ∧ Fld Z h a1 kS0 "count" "I" (.int 1) ∧ Arv Z h d1 kd .byte (16 : Int32) [(.int xs0), (.int 0), (.int 0), (.int 0), (.int 0), (.int 0), (.int 0), (.int 0), (.int 0), (.int 0), (.int 0), (.int 0), (.int 0), (.int 0), (.int 0), (.int 0)] (.int 0)
theorem ef_rm_sa_1_0_16 (m : MethodId) (x0 : Addr) (x1 : Addr) : entryFrame m #[(.ref x0), (.ref x1)] 2 = mkF m 0 #[.val (.ref x0), .val (.ref x1)] [] := by first | rfl | (simp [entryFrame, mkF, argsToLocals, Value.category]; done)
theorem rm_sa_1_0_16 (l : Launch) (Z : State) (a0 : Array Value) (hw : HW Z a0) (ws : List Jvm.Cond) (x1 : Addr) (t1 : Addr) (k1 : ClassId) (xs0 : Int32) (a1 : Addr) (d1 : Addr) (kd : ClassId) (z0 : Int32) (h0 : Heap) (n0 : Nat) (Z0 : n0 ≤ h0.size) (O0 : Old Z n0 h0) (Esx1 : Exa Z h0 x1 kS1) (Fcx1 : Fld Z h0 x1 kS1 "coder" "B" (.int 0)) (Fvx1 : Fld Z h0 x1 kS1 "value" "[B" (.ref t1)) (Vsx1 : Arv Z h0 t1 k1 .byte (1 : Int32) [(.int xs0)] (.int 0)) (Eb : Exa Z h0 a1 kS2) (Fbv : Fld Z h0 a1 kS0 "value" "[B" (.ref d1)) (Fbc : Fld Z h0 a1 kS0 "coder" "B" (.int 0)) (Fbn : Fld Z h0 a1 kS0 "count" "I" (.int 0)) (Vb : Arv Z h0 d1 kd .byte (16 : Int32) [(.int 0), (.int 0), (.int 0), (.int 0), (.int 0), (.int 0), (.int 0), (.int 0), (.int 0), (.int 0), (.int 0), (.int 0), (.int 0), (.int 0), (.int 0), (.int 0)] (.int 0)) (SZc : Sta Z Z.heap kS1 "COMPACT_STRINGS" "Z" (.int z0)) (hz0 : ¬ z0 = 0) (ga : n0 ≤ a1) (gd : n0 ≤ d1) (ned : t1 ≠ d1) :
  OwnM l Z h0 (⟨kS2, "append", "(Ljava/lang/String;)Ljava/lang/StringBuilder;"⟩ : MethodName) (Jvm.Cond.code (⟨kS2, "append", "(Ljava/lang/String;)Ljava/lang/StringBuilder;"⟩ : MethodName) jdk_67_method_7_code 2 (some (.object kS2)) :: ws) (RM 4 0 0 61) #[(.ref a1), (.ref x1)] (Qrm_sa_1_0_16 Z x1 t1 k1 xs0 a1 d1 kd z0 h0 n0) := by
 refine MetFree.of_bodySF (plainFor_of_name pn_3) hisR ?_
 intro p e s m args below meth c s₁ Bd hml0 hP hK
 obtain ⟨rfl, hZ, hh⟩ := hP
 have hx := Bd.exec
 have hby := Bd.bytes
 have hml : c.maxLocals = 2 := hml0
 have hown : s.vm.findClass kS2 = some m.cls := findClass_of_methodNamed Bd.named
 have hnm := (name_of_methodNamed Bd.named Bd.method).1
 have X0 : Stand p l e (RM 4 0 0 61) s m #[(.ref a1), (.ref x1)] below meth c s₁ [] 0 0 := Stand.of_body Bd
 have e0 : s₁.heap = h0 := by rw [← hh, Bd.state]; rfl
 have N0 := Fr.nil n0
 have pre0 : ∀ t, GO p e below s₁ (mkF m 0 #[.val (.ref a1), .val (.ref x1)] []) t → GO p e below s₁ (entryFrame m #[(.ref a1), (.ref x1)] 2) t := fun t k => castTop (ef_rm_sa_1_0_16 m a1 x1) k
 have lt_Esx1 := ltA Esx1.lt
 have lt_Fcx1 := ltA Fcx1.lt
 have lt_Fvx1 := ltA Fvx1.lt
 have lt_Vsx1 := ltA Vsx1.lt
 have lt_Eb := ltA Eb.lt
 have lt_Fbv := ltA Fbv.lt
 have lt_Fbc := ltA Fbc.lt
 have lt_Fbn := ltA Fbn.lt
 have lt_Vb := ltA Vb.lt
 -- pc 2: AbstractStringBuilder.append by rm_aa_1_0_16
 obtain ⟨_, _, ⟨T132, L132, k132, n132⟩, -, X132, ⟨Lc132, hQ132, l132, y132, z132⟩, st132⟩ := superBack X0 hx hZ (y := (⟨kS0, "append", kS3⟩ : MethodName)) hown (wd hw 49 rfl) (own_sameM (y := (⟨kS0, "append", kS3⟩ : MethodName)) (wd hw 50 rfl) (wd hw 70 rfl) rfl (by decide)) (wd hw 50 rfl) (wd hw 51 rfl) (by decide) (backOf (W := 0) (rm_aa_1_0_16 l Z a0 hw [] x1 t1 k1 xs0 a1 d1 kd z0 h0 n0 (by omega) O0 Esx1 Fcx1 Fvx1 Vsx1 Eb Fbv Fbc Fbn Vb (by first | assumption | decide | omega) (by first | assumption | decide | omega) (by first | assumption | decide | omega) (by first | assumption | decide | omega) ned) hZ (wd hw 53 rfl) (wd hw 36 rfl) (by decide) (by decide)) e0 (Ins.self Eb) (g := (mkF m 2 #[.val (.ref a1), .val (.ref x1)] [(.ref x1), (.ref a1)])) rfl (by rw [hml]; rfl) (wd hw 53 rfl) (argsL := [(.ref x1)]) (rest := []) (lenOf pd_10 rfl) rfl (wz rfl) (hb hby d7_2) (fun _ _ => ⟨rfl, e0, (by decide : 0 + 0 ≤ _), (by decide : 0 + 0 ≤ _)⟩)
 dsimp only [Pt.U, Pt.locs, Pt.cells, Pt.slots] at X132 l132 y132 z132 st132 hQ132
 subst l132 y132 z132
 obtain ⟨h132, e132⟩ : ∃ z, T132.heap = z := ⟨_, rfl⟩
 rw [e132] at hQ132
 obtain ⟨rfl, N132q, K132, p132_0, p132_1, p132_2, p132_3, p132_4⟩ := hQ132
 have N132 := Fr.app N0 N132q
 have ne133 : a1 ≠ x1 := ne_exa Eb Esx1 (by decide)
 have ne134 : a1 ≠ t1 := Exa.neArv Eb Vsx1 (wd hw 27 rfl)
 have ne135 : a1 ≠ d1 := Exa.neArv Eb Vb (wd hw 27 rfl)
 have ne136 : d1 ≠ x1 := Ne.symm (Exa.neArv Esx1 Vb (wd hw 2 rfl))
 have sz132 : h0.size ≤ h132.size := K132.1
 have lt132_0 := ltA p132_0.lt
 have lt132_4 := ltA p132_4.lt
 obtain ⟨fs, hr, hrun, hended, hW, hsame⟩ := X132.leave (v := some (.ref a1)) (fun h => by rw [Bd.returns] at h; cases h)
 refine ⟨_, _, pre0 _ ?_, hrun, hended, _, _, rfl, ?_, ⟨_, rfl⟩, hW, hsame.mono (by decide) (by decide)⟩
 ·show GO p e below s₁ (mkF m 0 #[.val (.ref a1), .val (.ref x1)] []) _
  refine XS.aloadN X0.here hx rfl (hb hby d7_0) rfl rfl ?_
  show GO p e below s₁ (mkF m 1 #[.val (.ref a1), .val (.ref x1)] [(.ref a1)]) _
  refine XS.aloadN X0.here hx rfl (hb hby d7_1) rfl rfl ?_
  show GO p e below s₁ (mkF m 2 #[.val (.ref a1), .val (.ref x1)] [(.ref x1), (.ref a1)]) _
  refine st132.trans ?_
  show GO p e below T132 (mkF m 5 #[.val (.ref a1), .val (.ref x1)] [(.ref a1)]) _
  refine XS.pop X132.here hx rfl (hb hby d7_5) rfl rfl ?_
  show GO p e below T132 (mkF m 6 #[.val (.ref a1), .val (.ref x1)] []) _
  refine XS.aloadN X132.here hx rfl (hb hby d7_6) rfl rfl ?_
  show GO p e below T132 (mkF m 7 #[.val (.ref a1), .val (.ref x1)] [(.ref a1)]) _
  exact retOut X132 hx Bd.returns rfl (Or.inr (Or.inr (Or.inr (Or.inr ⟨rfl, rfl, rfl⟩)))) (hb hby d7_7) hr
 ·show Qrm_sa_1_0_16 Z x1 t1 k1 xs0 a1 d1 kd z0 h0 n0 _ T132.heap _
  rw [e132]
  exact ⟨rfl, N132, ((Keep.refl h0 [a1, d1]).trans K132 (allS (P := fun x => x ∈ _ ∨ _) (Or.inl (List.mem_of_getElem? (i := 0) rfl)) (allS (P := fun x => x ∈ _ ∨ _) (Or.inl (List.mem_of_getElem? (i := 1) rfl)) all0))), p132_0, p132_1, p132_2, p132_3, p132_4⟩
def Qrm_gv (Z : State) (a1 : Addr) (d1 : Addr) (h0 : Heap) (n0 : Nat) (v : Option Value) (h : Heap) (L : List Loc) : Prop := v = some (.ref d1) ∧ Fr n0 L ∧ h = h0
theorem ef_rm_gv (m : MethodId) (x0 : Addr) : entryFrame m #[(.ref x0)] 1 = mkF m 0 #[.val (.ref x0)] [] := by first | rfl | (simp [entryFrame, mkF, argsToLocals, Value.category]; done)
theorem rm_gv (l : Launch) (Z : State) (a0 : Array Value) (hw : HW Z a0) (ws : List Jvm.Cond) (a1 : Addr) (d1 : Addr) (h0 : Heap) (n0 : Nat) (Z0 : n0 ≤ h0.size) (Fbv : Fld Z h0 a1 kS0 "value" "[B" (.ref d1)) :
  OwnM l Z h0 (⟨kS0, "getValue", "()[B"⟩ : MethodName) (Jvm.Cond.code (⟨kS0, "getValue", "()[B"⟩ : MethodName) jdk_68_method_64_code 1 (some (.array .byte)) :: ws) (RM 0 0 0 0) #[(.ref a1)] (Qrm_gv Z a1 d1 h0 n0) := by
 refine MetFree.of_bodySF (plainFor_of_name pn_2) hisR ?_
 intro p e s m args below meth c s₁ Bd hml0 hP hK
 obtain ⟨rfl, hZ, hh⟩ := hP
 have hx := Bd.exec
 have hby := Bd.bytes
 have hml : c.maxLocals = 1 := hml0
 have hown : s.vm.findClass kS0 = some m.cls := findClass_of_methodNamed Bd.named
 have hnm := (name_of_methodNamed Bd.named Bd.method).1
 have X0 : Stand p l e (RM 0 0 0 0) s m #[(.ref a1)] below meth c s₁ [] 0 0 := Stand.of_body Bd
 have e0 : s₁.heap = h0 := by rw [← hh, Bd.state]; rfl
 have N0 := Fr.nil n0
 have pre0 : ∀ t, GO p e below s₁ (mkF m 0 #[.val (.ref a1)] []) t → GO p e below s₁ (entryFrame m #[(.ref a1)] 1) t := fun t k => castTop (ef_rm_gv m a1) k
 have lt_Fbv := ltA Fbv.lt
 obtain ⟨T137, X137, e137, st137⟩ := getF X0 hx hZ hown (host := "") (Or.inl (wd hw 40 rfl)) Via.refl e0 Fbv (g := (mkF m 1 #[.val (.ref a1)] [(.ref a1)])) rfl rfl (hb hby d18_1)
 obtain ⟨fs, hr, hrun, hended, hW, hsame⟩ := X137.leave (v := some (.ref d1)) (fun h => by rw [Bd.returns] at h; cases h)
 refine ⟨_, _, pre0 _ ?_, hrun, hended, _, _, rfl, ?_, ⟨_, rfl⟩, hW, hsame.mono (by decide) (by decide)⟩
 ·show GO p e below s₁ (mkF m 0 #[.val (.ref a1)] []) _
  refine XS.aloadN X0.here hx rfl (hb hby d18_0) rfl rfl ?_
  show GO p e below s₁ (mkF m 1 #[.val (.ref a1)] [(.ref a1)]) _
  refine st137 _ ?_
  show GO p e below T137 (mkF m 4 #[.val (.ref a1)] [(.ref d1)]) _
  exact retOut X137 hx Bd.returns rfl (Or.inr (Or.inr (Or.inr (Or.inr ⟨rfl, rfl, rfl⟩)))) (hb hby d18_4) hr
 ·show Qrm_gv Z a1 d1 h0 n0 _ T137.heap _
  rw [e137]
  exact ⟨rfl, N0, rfl⟩
def Qrm_al (Z : State) (a1 : Addr) (c1 : Int32) (h0 : Heap) (n0 : Nat) (v : Option Value) (h : Heap) (L : List Loc) : Prop := v = some (.int c1) ∧ Fr n0 L ∧ h = h0
theorem ef_rm_al (m : MethodId) (x0 : Addr) : entryFrame m #[(.ref x0)] 1 = mkF m 0 #[.val (.ref x0)] [] := by first | rfl | (simp [entryFrame, mkF, argsToLocals, Value.category]; done)
theorem rm_al (l : Launch) (Z : State) (a0 : Array Value) (hw : HW Z a0) (ws : List Jvm.Cond) (a1 : Addr) (c1 : Int32) (h0 : Heap) (n0 : Nat) (Z0 : n0 ≤ h0.size) (Fbn : Fld Z h0 a1 kS0 "count" "I" (.int c1)) :
  OwnM l Z h0 (⟨kS0, "length", "()I"⟩ : MethodName) (Jvm.Cond.code (⟨kS0, "length", "()I"⟩ : MethodName) jdk_68_method_6_code 1 (some .int) :: ws) (RM 0 0 0 0) #[(.ref a1)] (Qrm_al Z a1 c1 h0 n0) := by
 refine MetFree.of_bodySF (plainFor_of_name pn_2) hisR ?_
 intro p e s m args below meth c s₁ Bd hml0 hP hK
 obtain ⟨rfl, hZ, hh⟩ := hP
 have hx := Bd.exec
 have hby := Bd.bytes
 have hml : c.maxLocals = 1 := hml0
 have hown : s.vm.findClass kS0 = some m.cls := findClass_of_methodNamed Bd.named
 have hnm := (name_of_methodNamed Bd.named Bd.method).1
 have X0 : Stand p l e (RM 0 0 0 0) s m #[(.ref a1)] below meth c s₁ [] 0 0 := Stand.of_body Bd
 have e0 : s₁.heap = h0 := by rw [← hh, Bd.state]; rfl
 have N0 := Fr.nil n0
 have pre0 : ∀ t, GO p e below s₁ (mkF m 0 #[.val (.ref a1)] []) t → GO p e below s₁ (entryFrame m #[(.ref a1)] 1) t := fun t k => castTop (ef_rm_al m a1) k
 have lt_Fbn := ltA Fbn.lt
 obtain ⟨T138, X138, e138, st138⟩ := getF X0 hx hZ hown (host := "") (Or.inl (wd hw 65 rfl)) Via.refl e0 Fbn (g := (mkF m 1 #[.val (.ref a1)] [(.ref a1)])) rfl rfl (hb hby d20_1)
 obtain ⟨fs, hr, hrun, hended, hW, hsame⟩ := X138.leave (v := some (.int c1)) (fun h => by rw [Bd.returns] at h; cases h)
 refine ⟨_, _, pre0 _ ?_, hrun, hended, _, _, rfl, ?_, ⟨_, rfl⟩, hW, hsame.mono (by decide) (by decide)⟩
 ·show GO p e below s₁ (mkF m 0 #[.val (.ref a1)] []) _
  refine XS.aloadN X0.here hx rfl (hb hby d20_0) rfl rfl ?_
  show GO p e below s₁ (mkF m 1 #[.val (.ref a1)] [(.ref a1)]) _
  refine st138 _ ?_
  show GO p e below T138 (mkF m 4 #[.val (.ref a1)] [(.int c1)]) _
  exact retI X138 hx Bd.returns (hb hby d20_4) hr
 ·show Qrm_al Z a1 c1 h0 n0 _ T138.heap _
  rw [e138]
  exact ⟨rfl, N0, rfl⟩
def Qrm_bl (Z : State) (a1 : Addr) (c1 : Int32) (h0 : Heap) (n0 : Nat) (v : Option Value) (h : Heap) (L : List Loc) : Prop := v = some (.int c1) ∧ Fr n0 L ∧ h = h0
theorem ef_rm_bl (m : MethodId) (x0 : Addr) : entryFrame m #[(.ref x0)] 1 = mkF m 0 #[.val (.ref x0)] [] := by first | rfl | (simp [entryFrame, mkF, argsToLocals, Value.category]; done)
theorem rm_bl (l : Launch) (Z : State) (a0 : Array Value) (hw : HW Z a0) (ws : List Jvm.Cond) (a1 : Addr) (c1 : Int32) (h0 : Heap) (n0 : Nat) (Z0 : n0 ≤ h0.size) (Eb : Exa Z h0 a1 kS2) (Fbn : Fld Z h0 a1 kS0 "count" "I" (.int c1)) :
  OwnM l Z h0 (⟨kS2, "length", "()I"⟩ : MethodName) (Jvm.Cond.code (⟨kS2, "length", "()I"⟩ : MethodName) jdk_67_method_93_code 1 (some .int) :: ws) (RM 1 0 0 12) #[(.ref a1)] (Qrm_bl Z a1 c1 h0 n0) := by
 refine MetFree.of_bodySF (plainFor_of_name pn_3) hisR ?_
 intro p e s m args below meth c s₁ Bd hml0 hP hK
 obtain ⟨rfl, hZ, hh⟩ := hP
 have hx := Bd.exec
 have hby := Bd.bytes
 have hml : c.maxLocals = 1 := hml0
 have hown : s.vm.findClass kS2 = some m.cls := findClass_of_methodNamed Bd.named
 have hnm := (name_of_methodNamed Bd.named Bd.method).1
 have X0 : Stand p l e (RM 1 0 0 12) s m #[(.ref a1)] below meth c s₁ [] 0 0 := Stand.of_body Bd
 have e0 : s₁.heap = h0 := by rw [← hh, Bd.state]; rfl
 have N0 := Fr.nil n0
 have pre0 : ∀ t, GO p e below s₁ (mkF m 0 #[.val (.ref a1)] []) t → GO p e below s₁ (entryFrame m #[(.ref a1)] 1) t := fun t k => castTop (ef_rm_bl m a1) k
 have lt_Eb := ltA Eb.lt
 have lt_Fbn := ltA Fbn.lt
 -- pc 1: AbstractStringBuilder.length by rm_al
 obtain ⟨_, _, ⟨T139, L139, k139, n139⟩, -, X139, ⟨Lc139, hQ139, l139, y139, z139⟩, st139⟩ := superBack X0 hx hZ (y := (⟨kS0, "length", "()I"⟩ : MethodName)) hown (wd hw 116 rfl) (own_sameM (y := (⟨kS0, "length", "()I"⟩ : MethodName)) (wd hw 112 rfl) (wd hw 70 rfl) rfl (by decide)) (wd hw 112 rfl) (wd hw 51 rfl) (by decide) (backOf (W := 0) (rm_al l Z a0 hw [] a1 c1 h0 n0 (by omega) Fbn) hZ (wd hw 117 rfl) (wd hw 36 rfl) (by decide) (by decide)) e0 (Ins.self Eb) (g := (mkF m 1 #[.val (.ref a1)] [(.ref a1)])) rfl (by rw [hml]; rfl) (wd hw 117 rfl) (argsL := []) (rest := []) (lenOf pd_8 rfl) rfl (wz rfl) (hb hby d19_1) (fun _ _ => ⟨rfl, e0, (by decide : 0 + 0 ≤ _), (by decide : 0 + 0 ≤ _)⟩)
 dsimp only [Pt.U, Pt.locs, Pt.cells, Pt.slots] at X139 l139 y139 z139 st139 hQ139
 subst l139 y139 z139
 obtain ⟨rfl, N139q, e139⟩ := hQ139
 have N139 := Fr.app N0 N139q
 obtain ⟨fs, hr, hrun, hended, hW, hsame⟩ := X139.leave (v := some (.int c1)) (fun h => by rw [Bd.returns] at h; cases h)
 refine ⟨_, _, pre0 _ ?_, hrun, hended, _, _, rfl, ?_, ⟨_, rfl⟩, hW, hsame.mono (by decide) (by decide)⟩
 ·show GO p e below s₁ (mkF m 0 #[.val (.ref a1)] []) _
  refine XS.aloadN X0.here hx rfl (hb hby d19_0) rfl rfl ?_
  show GO p e below s₁ (mkF m 1 #[.val (.ref a1)] [(.ref a1)]) _
  refine st139.trans ?_
  show GO p e below T139 (mkF m 4 #[.val (.ref a1)] [(.int c1)]) _
  exact retI X139 hx Bd.returns (hb hby d19_4) hr
 ·show Qrm_bl Z a1 c1 h0 n0 _ T139.heap _
  rw [e139]
  exact ⟨rfl, N139, rfl⟩
def Qrm_il (Z : State) (a1 : Addr) (z0 : Int32) (h0 : Heap) (n0 : Nat) (v : Option Value) (h : Heap) (L : List Loc) : Prop := v = some (.int 1) ∧ Fr n0 L ∧ h = h0
theorem ef_rm_il (m : MethodId) (x0 : Addr) : entryFrame m #[(.ref x0)] 1 = mkF m 0 #[.val (.ref x0)] [] := by first | rfl | (simp [entryFrame, mkF, argsToLocals, Value.category]; done)
theorem rm_il (l : Launch) (Z : State) (a0 : Array Value) (hw : HW Z a0) (ws : List Jvm.Cond) (a1 : Addr) (z0 : Int32) (h0 : Heap) (n0 : Nat) (Z0 : n0 ≤ h0.size) (O0 : Old Z n0 h0) (Fbc : Fld Z h0 a1 kS0 "coder" "B" (.int 0)) (SZc : Sta Z Z.heap kS1 "COMPACT_STRINGS" "Z" (.int z0)) (hz0 : ¬ z0 = 0) :
  OwnM l Z h0 (⟨kS0, "isLatin1", "()Z"⟩ : MethodName) (Jvm.Cond.code (⟨kS0, "isLatin1", "()Z"⟩ : MethodName) jdk_68_method_68_code 1 (some .boolean) :: ws) (RM 0 0 0 0) #[(.ref a1)] (Qrm_il Z a1 z0 h0 n0) := by
 refine MetFree.of_bodySF (plainFor_of_name pn_2) hisR ?_
 intro p e s m args below meth c s₁ Bd hml0 hP hK
 obtain ⟨rfl, hZ, hh⟩ := hP
 have hx := Bd.exec
 have hby := Bd.bytes
 have hml : c.maxLocals = 1 := hml0
 have hown : s.vm.findClass kS0 = some m.cls := findClass_of_methodNamed Bd.named
 have hnm := (name_of_methodNamed Bd.named Bd.method).1
 have X0 : Stand p l e (RM 0 0 0 0) s m #[(.ref a1)] below meth c s₁ [] 0 0 := Stand.of_body Bd
 have e0 : s₁.heap = h0 := by rw [← hh, Bd.state]; rfl
 have N0 := Fr.nil n0
 have pre0 : ∀ t, GO p e below s₁ (mkF m 0 #[.val (.ref a1)] []) t → GO p e below s₁ (entryFrame m #[(.ref a1)] 1) t := fun t k => castTop (ef_rm_il m a1) k
 have lt_Fbc := ltA Fbc.lt
 have S140 : Sta Z h0 kS1 "COMPACT_STRINGS" "Z" (.int z0) := SZc.ext O0.2
 obtain ⟨T141, X141, e141, st141⟩ := getS2 X0 hx hZ hown (host := "") (Or.inl (wd hw 39 rfl)) Via.refl e0 S140 (g := (mkF m 0 #[.val (.ref a1)] [])) rfl (hb hby d21_0)
 obtain ⟨T142, X142, e142, st142⟩ := getF X141 hx hZ hown (host := "") (Or.inl (wd hw 42 rfl)) Via.refl e141 Fbc (g := (mkF m 7 #[.val (.ref a1)] [(.ref a1)])) rfl rfl (hb hby d21_7)
 obtain ⟨fs, hr, hrun, hended, hW, hsame⟩ := X142.leave (v := some (.int 1)) (fun h => by rw [Bd.returns] at h; cases h)
 refine ⟨_, _, pre0 _ ?_, hrun, hended, _, _, rfl, ?_, ⟨_, rfl⟩, hW, hsame.mono (by decide) (by decide)⟩
 ·show GO p e below s₁ (mkF m 0 #[.val (.ref a1)] []) _
  refine st141 _ ?_
  show GO p e below T141 (mkF m 3 #[.val (.ref a1)] [(.int z0)]) _
  refine XS.ifNo X141.here hx rfl (hb hby d21_3) rfl ((if0 _ _).trans (feq ((by first | assumption | decide) : ¬ (z0 = (0 : Int32)))).1) ?_
  show GO p e below T141 (mkF m 6 #[.val (.ref a1)] []) _
  refine XS.aloadN X141.here hx rfl (hb hby d21_6) rfl rfl ?_
  show GO p e below T141 (mkF m 7 #[.val (.ref a1)] [(.ref a1)]) _
  refine st142 _ ?_
  show GO p e below T142 (mkF m 10 #[.val (.ref a1)] [(.int 0)]) _
  refine XS.ifNo X142.here hx rfl (hb hby d21_10) rfl ((if0 _ _).trans (teq (rfl : (0 : Int32) = (0 : Int32))).2) ?_
  show GO p e below T142 (mkF m 13 #[.val (.ref a1)] []) _
  refine XS.iconst X142.here hx rfl (hb hby d21_13) ?_
  show GO p e below T142 (mkF m 14 #[.val (.ref a1)] [(.int 1)]) _
  refine XS.goto X142.here hx rfl (pc0 := 14) (pc' := 18) rfl (hb hby d21_14) (by decide) (by decide) ?_
  show GO p e below T142 (mkF m 18 #[.val (.ref a1)] [(.int 1)]) _
  exact retN X142 hx (t := .boolean) Bd.returns (by simp) (hb hby d21_18) hr
 ·show Qrm_il Z a1 z0 h0 n0 _ T142.heap _
  rw [e142]
  exact ⟨rfl, N0, rfl⟩
def Qrm_cl1 (Z : State)  (h0 : Heap) (n0 : Nat) (v : Option Value) (h : Heap) (L : List Loc) : Prop := v = none ∧ Fr n0 L ∧ h = h0
theorem ef_rm_cl1 (m : MethodId) (x0 : Int32) (x1 : Int32) : entryFrame m #[(.int x0), (.int x1)] 2 = mkF m 0 #[.val (.int x0), .val (.int x1)] [] := by first | rfl | (simp [entryFrame, mkF, argsToLocals, Value.category]; done)
theorem rm_cl1 (l : Launch) (Z : State) (a0 : Array Value) (hw : HW Z a0) (ws : List Jvm.Cond)  (h0 : Heap) (n0 : Nat) (Z0 : n0 ≤ h0.size) :
  OwnM l Z h0 (⟨"java/util/Arrays", "checkLength", "(II)V"⟩ : MethodName) (Jvm.Cond.code (⟨"java/util/Arrays", "checkLength", "(II)V"⟩ : MethodName) jdk_65_method_131_code 2 none :: ws) (RM 0 0 0 0) #[(.int 0), (.int 1)] (Qrm_cl1 Z  h0 n0) := by
 refine MetFree.of_bodySF (plainFor_of_name pn_4) hisR ?_
 intro p e s m args below meth c s₁ Bd hml0 hP hK
 obtain ⟨rfl, hZ, hh⟩ := hP
 have hx := Bd.exec
 have hby := Bd.bytes
 have hml : c.maxLocals = 2 := hml0
 have hown : s.vm.findClass "java/util/Arrays" = some m.cls := findClass_of_methodNamed Bd.named
 have hnm := (name_of_methodNamed Bd.named Bd.method).1
 have X0 : Stand p l e (RM 0 0 0 0) s m #[(.int 0), (.int 1)] below meth c s₁ [] 0 0 := Stand.of_body Bd
 have e0 : s₁.heap = h0 := by rw [← hh, Bd.state]; rfl
 have N0 := Fr.nil n0
 have pre0 : ∀ t, GO p e below s₁ (mkF m 0 #[.val (.int 0), .val (.int 1)] []) t → GO p e below s₁ (entryFrame m #[(.int 0), (.int 1)] 2) t := fun t k => castTop (ef_rm_cl1 m ((0 : Int32)) ((1 : Int32))) k
 obtain ⟨fs, hr, hrun, hended, hW, hsame⟩ := X0.leave (v := none) (fun _ => rfl)
 refine ⟨_, _, pre0 _ ?_, hrun, hended, _, _, rfl, ?_, ⟨_, rfl⟩, hW, hsame.mono (by decide) (by decide)⟩
 ·show GO p e below s₁ (mkF m 0 #[.val (.int 0), .val (.int 1)] []) _
  refine XS.iloadN X0.here hx rfl (hb hby d24_0) rfl ?_
  show GO p e below s₁ (mkF m 1 #[.val (.int 0), .val (.int 1)] [(.int 1)]) _
  refine XS.iloadN X0.here hx rfl (hb hby d24_1) rfl ?_
  show GO p e below s₁ (mkF m 2 #[.val (.int 0), .val (.int 1)] [(.int 0), (.int 1)]) _
  refine XS.icmpYes X0.here hx rfl (pc0 := 2) (pc' := 37) rfl (hb hby d24_2) rfl (flt ((by decide) : ¬ ((1 : Int32) < (0 : Int32)))).2.1 (by decide) (by decide) ?_
  show GO p e below s₁ (mkF m 37 #[.val (.int 0), .val (.int 1)] []) _
  exact X0.returnOut hx Bd.returns (hb hby d24_37) hr
 ·show Qrm_cl1 Z  h0 n0 _ s₁.heap _
  rw [e0]
  exact ⟨rfl, N0, rfl⟩
def Qrm_mi_16_1 (Z : State)  (h0 : Heap) (n0 : Nat) (v : Option Value) (h : Heap) (L : List Loc) : Prop := v = some (.int 1) ∧ Fr n0 L ∧ h = h0
theorem ef_rm_mi_16_1 (m : MethodId) (x0 : Int32) (x1 : Int32) : entryFrame m #[(.int x0), (.int x1)] 2 = mkF m 0 #[.val (.int x0), .val (.int x1)] [] := by first | rfl | (simp [entryFrame, mkF, argsToLocals, Value.category]; done)
theorem rm_mi_16_1 (l : Launch) (Z : State) (a0 : Array Value) (hw : HW Z a0) (ws : List Jvm.Cond)  (h0 : Heap) (n0 : Nat) (Z0 : n0 ≤ h0.size) :
  OwnM l Z h0 (⟨"java/lang/Math", "min", "(II)I"⟩ : MethodName) (Jvm.Cond.code (⟨"java/lang/Math", "min", "(II)I"⟩ : MethodName) jdk_29_method_69_code 2 (some .int) :: ws) (RM 0 0 0 0) #[(.int 16), (.int 1)] (Qrm_mi_16_1 Z  h0 n0) := by
 refine MetFree.of_bodySF (Jvm.Free.JP.mathPlain rfl (by decide +kernel)) hisR ?_
 intro p e s m args below meth c s₁ Bd hml0 hP hK
 obtain ⟨rfl, hZ, hh⟩ := hP
 have hx := Bd.exec
 have hby := Bd.bytes
 have hml : c.maxLocals = 2 := hml0
 have hown : s.vm.findClass "java/lang/Math" = some m.cls := findClass_of_methodNamed Bd.named
 have hnm := (name_of_methodNamed Bd.named Bd.method).1
 have X0 : Stand p l e (RM 0 0 0 0) s m #[(.int 16), (.int 1)] below meth c s₁ [] 0 0 := Stand.of_body Bd
 have e0 : s₁.heap = h0 := by rw [← hh, Bd.state]; rfl
 have N0 := Fr.nil n0
 have pre0 : ∀ t, GO p e below s₁ (mkF m 0 #[.val (.int 16), .val (.int 1)] []) t → GO p e below s₁ (entryFrame m #[(.int 16), (.int 1)] 2) t := fun t k => castTop (ef_rm_mi_16_1 m ((16 : Int32)) ((1 : Int32))) k
 obtain ⟨fs, hr, hrun, hended, hW, hsame⟩ := X0.leave (v := some (.int 1)) (fun h => by rw [Bd.returns] at h; cases h)
 refine ⟨_, _, pre0 _ ?_, hrun, hended, _, _, rfl, ?_, ⟨_, rfl⟩, hW, hsame.mono (by decide) (by decide)⟩
 ·show GO p e below s₁ (mkF m 0 #[.val (.int 16), .val (.int 1)] []) _
  refine XS.iloadN X0.here hx rfl (hb hby d25_0) rfl ?_
  show GO p e below s₁ (mkF m 1 #[.val (.int 16), .val (.int 1)] [(.int 16)]) _
  refine XS.iloadN X0.here hx rfl (hb hby d25_1) rfl ?_
  show GO p e below s₁ (mkF m 2 #[.val (.int 16), .val (.int 1)] [(.int 1), (.int 16)]) _
  refine XS.icmpYes X0.here hx rfl (pc0 := 2) (pc' := 9) rfl (hb hby d25_2) rfl (tlt ((by decide) : (1 : Int32) < (16 : Int32))).2.2.1 (by decide) (by decide) ?_
  show GO p e below s₁ (mkF m 9 #[.val (.int 16), .val (.int 1)] []) _
  refine XS.iloadN X0.here hx rfl (hb hby d25_9) rfl ?_
  show GO p e below s₁ (mkF m 10 #[.val (.int 16), .val (.int 1)] [(.int 1)]) _
  exact retI X0 hx Bd.returns (hb hby d25_10) hr
 ·show Qrm_mi_16_1 Z  h0 n0 _ s₁.heap _
  rw [e0]
  exact ⟨rfl, N0, rfl⟩
def Qrm_cb_1_16 (Z : State) (d1 : Addr) (kd : ClassId) (xe0 : Int32) (h0 : Heap) (n0 : Nat) (v : Option Value) (h : Heap) (L : List Loc) : Prop := ∃ t : Addr, ∃ k : ClassId, v = some (.ref t) ∧ Fr n0 L ∧ Keep h0 h [] ∧ Exa Z h t "[B" ∧ Arv Z h t k .byte (1 : Int32) [(.int xe0)] (.int 0) ∧ h0.size ≤ t
theorem ef_rm_cb_1_16 (m : MethodId) (x0 : Addr) (x1 : Int32) (x2 : Int32) : entryFrame m #[(.ref x0), (.int x1), (.int x2)] 5 = mkF m 0 (la1 x0 x1 x2) [] := by first | rfl | (simp [entryFrame, mkF, argsToLocals, Value.category]; done)
theorem rm_cb_1_16 (l : Launch) (Z : State) (a0 : Array Value) (hw : HW Z a0) (ws : List Jvm.Cond) (d1 : Addr) (kd : ClassId) (xe0 : Int32) (h0 : Heap) (n0 : Nat) (Z0 : n0 ≤ h0.size) (Vd : Arv Z h0 d1 kd .byte (16 : Int32) [(.int xe0), (.int 0), (.int 0), (.int 0), (.int 0), (.int 0), (.int 0), (.int 0), (.int 0), (.int 0), (.int 0), (.int 0), (.int 0), (.int 0), (.int 0), (.int 0)] (.int 0)) :
  OwnM l Z h0 (⟨"java/util/Arrays", "copyOfRangeByte", "([BII)[B"⟩ : MethodName) (Jvm.Cond.code (⟨"java/util/Arrays", "copyOfRangeByte", "([BII)[B"⟩ : MethodName) jdk_65_method_133_code 5 (some (.array .byte)) :: ws) (RM 1 1 1 18) #[(.ref d1), (.int 0), (.int 1)] (Qrm_cb_1_16 Z d1 kd xe0 h0 n0) := by
 refine MetFree.of_bodySF (plainFor_of_name pn_4) hisR ?_
 intro p e s m args below meth c s₁ Bd hml0 hP hK
 obtain ⟨rfl, hZ, hh⟩ := hP
 have hx := Bd.exec
 have hby := Bd.bytes
 have hml : c.maxLocals = 5 := hml0
 have hown : s.vm.findClass "java/util/Arrays" = some m.cls := findClass_of_methodNamed Bd.named
 have hnm := (name_of_methodNamed Bd.named Bd.method).1
 have X0 : Stand p l e (RM 1 1 1 18) s m #[(.ref d1), (.int 0), (.int 1)] below meth c s₁ [] 0 0 := Stand.of_body Bd
 have e0 : s₁.heap = h0 := by rw [← hh, Bd.state]; rfl
 have N0 := Fr.nil n0
 have pre0 : ∀ t, GO p e below s₁ (mkF m 0 (la1 d1 (0 : Int32) (1 : Int32)) []) t → GO p e below s₁ (entryFrame m #[(.ref d1), (.int 0), (.int 1)] 5) t := fun t k => castTop (ef_rm_cb_1_16 m d1 ((0 : Int32)) ((1 : Int32))) k
 have lt_Vd := ltA Vd.lt
 -- pc 2: Arrays.checkLength by rm_cl1
 obtain ⟨_, _, ⟨T143, L143, k143, n143⟩, -, X143, ⟨Lc143, hQ143, l143, y143, z143⟩, st143⟩ := Jvm.LawKit.callS X0 hx (y := (⟨"java/util/Arrays", "checkLength", "(II)V"⟩ : MethodName)) hown (mvT hZ (wd hw 130 rfl)) (mvT hZ (wd hw 131 rfl)) (mvT hZ (wd hw 125 rfl)) (mvT hZ (wd hw 132 rfl)) (by decide) (backOf (W := 0) (rm_cl1 l Z a0 hw []  h0 n0 (by omega)) hZ (wd hw 132 rfl) (wd hw 125 rfl) (by decide) (by decide)) (g := (mkF m 2 (la1 d1 (0 : Int32) (1 : Int32)) [(.int 1), (.int 0)])) rfl (by rw [hml]; rfl) (argsL := [(.int 0), (.int 1)]) (rest := []) (lenOf pd_11 rfl) rfl (wz rfl) (hb hby d23_2) (fun _ _ => ⟨rfl, e0, (by decide : 0 + 0 ≤ _), (by decide : 0 + 0 ≤ _)⟩)
 dsimp only [Pt.U, Pt.locs, Pt.cells, Pt.slots] at X143 l143 y143 z143 st143 hQ143
 subst l143 y143 z143
 obtain ⟨rfl, N143q, e143⟩ := hQ143
 have N143 := Fr.app N0 N143q
 obtain ⟨T144, h144, k144, X144, e144, E144, A144, Q144, st144⟩ := newPE (ad := "[B") X143 hx hZ (wd hw 15 rfl) e143 (g := (mkF m 10 (la2 d1 (0 : Int32) (1 : Int32) (1 : Int32)) [(.int 1)])) rfl (hb hby d23_10) rfl (by decide) (cap := 1) (by decide) (by decide) (by decide) (by decide) (by decide)
 obtain ⟨b144, g144⟩ : ∃ z, z = h0.size := ⟨_, rfl⟩
 rw [← g144] at A144 st144 Q144
 have sz144 : h0.size ≤ h144.size := E144.1
 have lt144 := ltA A144.lt
 have V144 : Arv Z h144 b144 k144 .byte (1 : Int32) [(.int 0)] (.int 0) := (Arv.new A144 (by decide)).pad (pad_rep [] (.int 0) 1)
 have f145 : Arv Z h144 d1 kd .byte (16 : Int32) [(.int xe0), (.int 0), (.int 0), (.int 0), (.int 0), (.int 0), (.int 0), (.int 0), (.int 0), (.int 0), (.int 0), (.int 0), (.int 0), (.int 0), (.int 0), (.int 0)] (.int 0) := (Vd.ext E144)
 obtain ⟨cl146, Ar146, -, S146, M146, -, -⟩ := id f145
 -- pc 24: Math.min by rm_mi_16_1
 obtain ⟨_, _, ⟨T147, L147, k147, n147⟩, -, X147, ⟨Lc147, hQ147, l147, y147, z147⟩, st147⟩ := Jvm.LawKit.callS X144 hx (y := (⟨"java/lang/Math", "min", "(II)I"⟩ : MethodName)) hown (mvT hZ (wd hw 133 rfl)) (mvT hZ (wd hw 134 rfl)) (mvT hZ (wd hw 135 rfl)) (mvT hZ (wd hw 136 rfl)) (by decide) (backOf (W := 4) (rm_mi_16_1 l Z a0 hw []  h144 n0 (by omega)) hZ (wd hw 136 rfl) (wd hw 135 rfl) (by decide) (by decide)) (g := (mkF m 24 (la13 d1 (0 : Int32) (1 : Int32) (1 : Int32) b144) [(.int 1), (.int 16), (.int 0), (.ref b144), (.int 0), (.ref d1)])) rfl (by rw [hml]; rfl) (argsL := [(.int 16), (.int 1)]) (rest := [(.int 0), (.ref b144), (.int 0), (.ref d1)]) (lenOf pd_12 rfl) rfl (wz rfl) (hb hby d23_24) (fun _ _ => ⟨rfl, e144, (by decide : 1 + 0 ≤ _), (by decide : 1 + 0 ≤ _)⟩)
 dsimp only [Pt.U, Pt.locs, Pt.cells, Pt.slots] at X147 l147 y147 z147 st147 hQ147
 subst l147 y147 z147
 obtain ⟨rfl, N147q, e147⟩ := hQ147
 have N147 := Fr.app N143 N147q
 obtain ⟨T148, h148, L148, X148, e148, N148, K148, A148, st148⟩ := cpA X147 hx hZ hown (wd hw 137 rfl) (wd hw 91 rfl) (wd hw 89 rfl) (wd hw 90 rfl) e147 f145 V144 (us := [(.int xe0)]) (Or.inl ⟨rfl, rfl⟩) (by decide) (by decide) (by decide) (by decide) (by decide) rfl (Nat.le_of_ble_eq_true rfl) N147 (by omega) (g := (mkF m 27 (la13 d1 (0 : Int32) (1 : Int32) (1 : Int32) b144) [(.int 1), (.int 0), (.ref b144), (.int 0), (.ref d1)])) rfl (by rw [hml]; rfl) rfl (hb hby d23_27) (by decide) (W := 0) (wz rfl) (by decide)
 have sz148 : h144.size ≤ h148.size := K148.1
 have V148 : Arv Z h148 b144 k144 .byte (1 : Int32) [(.int xe0)] (.int 0) := A148
 have f149 : Exa Z h148 b144 "[B" := (Q144.keep K148)
 obtain ⟨fs, hr, hrun, hended, hW, hsame⟩ := X148.leave (v := some (.ref b144)) (fun h => by rw [Bd.returns] at h; cases h)
 refine ⟨_, _, pre0 _ ?_, hrun, hended, _, _, rfl, ?_, ⟨_, rfl⟩, hW, hsame.mono (by decide) (by decide)⟩
 ·show GO p e below s₁ (mkF m 0 (la1 d1 (0 : Int32) (1 : Int32)) []) _
  refine XS.iloadN X0.here hx rfl (hb hby d23_0) rfl ?_
  show GO p e below s₁ (mkF m 1 (la1 d1 (0 : Int32) (1 : Int32)) [(.int 0)]) _
  refine XS.iloadN X0.here hx rfl (hb hby d23_1) rfl ?_
  show GO p e below s₁ (mkF m 2 (la1 d1 (0 : Int32) (1 : Int32)) [(.int 1), (.int 0)]) _
  refine st143 _ ?_
  show GO p e below T143 (mkF m 5 (la1 d1 (0 : Int32) (1 : Int32)) []) _
  refine XS.iloadN X143.here hx rfl (hb hby d23_5) rfl ?_
  show GO p e below T143 (mkF m 6 (la1 d1 (0 : Int32) (1 : Int32)) [(.int 1)]) _
  refine XS.iloadN X143.here hx rfl (hb hby d23_6) rfl ?_
  show GO p e below T143 (mkF m 7 (la1 d1 (0 : Int32) (1 : Int32)) [(.int 0), (.int 1)]) _
  refine XS.isub X143.here hx rfl (hb hby d23_7) rfl ?_
  rw [show ((1 : Int32) - (0 : Int32)) = (1 : Int32) from by decide]
  show GO p e below T143 (mkF m 8 (la1 d1 (0 : Int32) (1 : Int32)) [(.int 1)]) _
  refine XS.istoreN X143.here hx rfl (hb hby d23_8) rfl (l' := (la2 d1 (0 : Int32) (1 : Int32) (1 : Int32))) rfl ?_
  show GO p e below T143 (mkF m 9 (la2 d1 (0 : Int32) (1 : Int32) (1 : Int32)) []) _
  refine XS.iloadN X143.here hx rfl (hb hby d23_9) rfl ?_
  show GO p e below T143 (mkF m 10 (la2 d1 (0 : Int32) (1 : Int32) (1 : Int32)) [(.int 1)]) _
  refine st144 _ ?_
  show GO p e below T144 (mkF m 12 (la2 d1 (0 : Int32) (1 : Int32) (1 : Int32)) [(.ref b144)]) _
  refine XS.astore X144.here hx rfl (hb hby d23_12) rfl rfl (l' := (la13 d1 (0 : Int32) (1 : Int32) (1 : Int32) b144)) rfl ?_
  show GO p e below T144 (mkF m 14 (la13 d1 (0 : Int32) (1 : Int32) (1 : Int32) b144) []) _
  refine XS.aloadN X144.here hx rfl (hb hby d23_14) rfl rfl ?_
  show GO p e below T144 (mkF m 15 (la13 d1 (0 : Int32) (1 : Int32) (1 : Int32) b144) [(.ref d1)]) _
  refine XS.iloadN X144.here hx rfl (hb hby d23_15) rfl ?_
  show GO p e below T144 (mkF m 16 (la13 d1 (0 : Int32) (1 : Int32) (1 : Int32) b144) [(.int 0), (.ref d1)]) _
  refine XS.aload X144.here hx rfl (hb hby d23_16) rfl rfl ?_
  show GO p e below T144 (mkF m 18 (la13 d1 (0 : Int32) (1 : Int32) (1 : Int32) b144) [(.ref b144), (.int 0), (.ref d1)]) _
  refine XS.iconst X144.here hx rfl (hb hby d23_18) ?_
  show GO p e below T144 (mkF m 19 (la13 d1 (0 : Int32) (1 : Int32) (1 : Int32) b144) [(.int 0), (.ref b144), (.int 0), (.ref d1)]) _
  refine XS.aloadN X144.here hx rfl (hb hby d23_19) rfl rfl ?_
  show GO p e below T144 (mkF m 20 (la13 d1 (0 : Int32) (1 : Int32) (1 : Int32) b144) [(.ref d1), (.int 0), (.ref b144), (.int 0), (.ref d1)]) _
  refine X144.arraylength hx (by rw [e144]; exact Ar146.1) (State.isArrayOf_alike hZ.alike Ar146.2.1) (g := (mkF m 20 (la13 d1 (0 : Int32) (1 : Int32) (1 : Int32) b144) [(.ref d1), (.int 0), (.ref b144), (.int 0), (.ref d1)])) rfl rfl (hb hby d23_20) _ ?_
  rw [len_of S146 M146]
  show GO p e below T144 (mkF m 21 (la13 d1 (0 : Int32) (1 : Int32) (1 : Int32) b144) [(.int 16), (.int 0), (.ref b144), (.int 0), (.ref d1)]) _
  refine XS.iloadN X144.here hx rfl (hb hby d23_21) rfl ?_
  show GO p e below T144 (mkF m 22 (la13 d1 (0 : Int32) (1 : Int32) (1 : Int32) b144) [(.int 0), (.int 16), (.int 0), (.ref b144), (.int 0), (.ref d1)]) _
  refine XS.isub X144.here hx rfl (hb hby d23_22) rfl ?_
  rw [show ((16 : Int32) - (0 : Int32)) = (16 : Int32) from by decide]
  show GO p e below T144 (mkF m 23 (la13 d1 (0 : Int32) (1 : Int32) (1 : Int32) b144) [(.int 16), (.int 0), (.ref b144), (.int 0), (.ref d1)]) _
  refine XS.iloadN X144.here hx rfl (hb hby d23_23) rfl ?_
  show GO p e below T144 (mkF m 24 (la13 d1 (0 : Int32) (1 : Int32) (1 : Int32) b144) [(.int 1), (.int 16), (.int 0), (.ref b144), (.int 0), (.ref d1)]) _
  refine st147 _ ?_
  show GO p e below T147 (mkF m 27 (la13 d1 (0 : Int32) (1 : Int32) (1 : Int32) b144) [(.int 1), (.int 0), (.ref b144), (.int 0), (.ref d1)]) _
  refine st148 _ ?_
  show GO p e below T148 (mkF m 30 (la13 d1 (0 : Int32) (1 : Int32) (1 : Int32) b144) []) _
  refine XS.aload X148.here hx rfl (hb hby d23_30) rfl rfl ?_
  show GO p e below T148 (mkF m 32 (la13 d1 (0 : Int32) (1 : Int32) (1 : Int32) b144) [(.ref b144)]) _
  exact retOut X148 hx Bd.returns rfl (Or.inr (Or.inr (Or.inr (Or.inr ⟨rfl, rfl, rfl⟩)))) (hb hby d23_32) hr
 ·show Qrm_cb_1_16 Z d1 kd xe0 h0 n0 _ T148.heap _
  rw [e148]
  exact ⟨b144, k144, rfl, N148, (((Keep.refl h0 []).ext E144).trans K148 (allS (P := fun x => x ∈ _ ∨ _) (Or.inr (by omega)) all0)), f149, V148, (by omega)⟩
def Qrm_cr_1_16 (Z : State) (d1 : Addr) (kd : ClassId) (xe0 : Int32) (h0 : Heap) (n0 : Nat) (v : Option Value) (h : Heap) (L : List Loc) : Prop := ∃ t : Addr, ∃ k : ClassId, v = some (.ref t) ∧ Fr n0 L ∧ Keep h0 h [] ∧ Exa Z h t "[B" ∧ Arv Z h t k .byte (1 : Int32) [(.int xe0)] (.int 0) ∧ h0.size ≤ t
theorem ef_rm_cr_1_16 (m : MethodId) (x0 : Addr) (x1 : Int32) (x2 : Int32) : entryFrame m #[(.ref x0), (.int x1), (.int x2)] 3 = mkF m 0 (la9 x0 x1 x2) [] := by first | rfl | (simp [entryFrame, mkF, argsToLocals, Value.category]; done)
theorem rm_cr_1_16 (l : Launch) (Z : State) (a0 : Array Value) (hw : HW Z a0) (ws : List Jvm.Cond) (d1 : Addr) (kd : ClassId) (xe0 : Int32) (h0 : Heap) (n0 : Nat) (Z0 : n0 ≤ h0.size) (Vd : Arv Z h0 d1 kd .byte (16 : Int32) [(.int xe0), (.int 0), (.int 0), (.int 0), (.int 0), (.int 0), (.int 0), (.int 0), (.int 0), (.int 0), (.int 0), (.int 0), (.int 0), (.int 0), (.int 0), (.int 0)] (.int 0)) :
  OwnM l Z h0 (⟨"java/util/Arrays", "copyOfRange", "([BII)[B"⟩ : MethodName) (Jvm.Cond.code (⟨"java/util/Arrays", "copyOfRange", "([BII)[B"⟩ : MethodName) jdk_65_method_132_code 3 (some (.array .byte)) :: ws) (RM 2 1 1 34) #[(.ref d1), (.int 0), (.int 1)] (Qrm_cr_1_16 Z d1 kd xe0 h0 n0) := by
 refine MetFree.of_bodySF (plainFor_of_name pn_4) hisR ?_
 intro p e s m args below meth c s₁ Bd hml0 hP hK
 obtain ⟨rfl, hZ, hh⟩ := hP
 have hx := Bd.exec
 have hby := Bd.bytes
 have hml : c.maxLocals = 3 := hml0
 have hown : s.vm.findClass "java/util/Arrays" = some m.cls := findClass_of_methodNamed Bd.named
 have hnm := (name_of_methodNamed Bd.named Bd.method).1
 have X0 : Stand p l e (RM 2 1 1 34) s m #[(.ref d1), (.int 0), (.int 1)] below meth c s₁ [] 0 0 := Stand.of_body Bd
 have e0 : s₁.heap = h0 := by rw [← hh, Bd.state]; rfl
 have N0 := Fr.nil n0
 have pre0 : ∀ t, GO p e below s₁ (mkF m 0 (la9 d1 (0 : Int32) (1 : Int32)) []) t → GO p e below s₁ (entryFrame m #[(.ref d1), (.int 0), (.int 1)] 3) t := fun t k => castTop (ef_rm_cr_1_16 m d1 ((0 : Int32)) ((1 : Int32))) k
 have lt_Vd := ltA Vd.lt
 obtain ⟨cl150, Ar150, -, S150, M150, -, -⟩ := id Vd
 -- pc 13: Arrays.copyOfRangeByte by rm_cb_1_16
 obtain ⟨_, _, ⟨T151, L151, k151, n151⟩, -, X151, ⟨Lc151, hQ151, l151, y151, z151⟩, st151⟩ := Jvm.LawKit.callS X0 hx (y := (⟨"java/util/Arrays", "copyOfRangeByte", "([BII)[B"⟩ : MethodName)) hown (mvT hZ (wd hw 127 rfl)) (mvT hZ (wd hw 128 rfl)) (mvT hZ (wd hw 125 rfl)) (mvT hZ (wd hw 129 rfl)) (by decide) (backOf (W := 0) (rm_cb_1_16 l Z a0 hw [] d1 kd xe0 h0 n0 (by omega) Vd) hZ (wd hw 129 rfl) (wd hw 125 rfl) (by decide) (by decide)) (g := (mkF m 13 (la9 d1 (0 : Int32) (1 : Int32)) [(.int 1), (.int 0), (.ref d1)])) rfl (by rw [hml]; rfl) (argsL := [(.ref d1), (.int 0), (.int 1)]) (rest := []) (lenOf pd_13 rfl) rfl (wz rfl) (hb hby d22_13) (fun _ _ => ⟨rfl, e0, (by decide : 0 + 1 ≤ _), (by decide : 0 + 1 ≤ _)⟩)
 dsimp only [Pt.U, Pt.locs, Pt.cells, Pt.slots] at X151 l151 y151 z151 st151 hQ151
 subst l151 y151 z151
 obtain ⟨h151, e151⟩ : ∃ z, T151.heap = z := ⟨_, rfl⟩
 rw [e151] at hQ151
 obtain ⟨t_151, k_151, rfl, N151q, K151, p151_0, p151_1, r151_0⟩ := hQ151
 have N151 := Fr.app N0 N151q
 have sz151 : h0.size ≤ h151.size := K151.1
 have lt151_0 := ltA p151_0.lt
 have lt151_1 := ltA p151_1.lt
 obtain ⟨fs, hr, hrun, hended, hW, hsame⟩ := X151.leave (v := some (.ref t_151)) (fun h => by rw [Bd.returns] at h; cases h)
 refine ⟨_, _, pre0 _ ?_, hrun, hended, _, _, rfl, ?_, ⟨_, rfl⟩, hW, hsame.mono (by decide) (by decide)⟩
 ·show GO p e below s₁ (mkF m 0 (la9 d1 (0 : Int32) (1 : Int32)) []) _
  refine XS.iloadN X0.here hx rfl (hb hby d22_0) rfl ?_
  show GO p e below s₁ (mkF m 1 (la9 d1 (0 : Int32) (1 : Int32)) [(.int 0)]) _
  refine XS.ifNo X0.here hx rfl (hb hby d22_1) rfl ((if0 _ _).trans (teq (rfl : (0 : Int32) = (0 : Int32))).2) ?_
  show GO p e below s₁ (mkF m 4 (la9 d1 (0 : Int32) (1 : Int32)) []) _
  refine XS.iloadN X0.here hx rfl (hb hby d22_4) rfl ?_
  show GO p e below s₁ (mkF m 5 (la9 d1 (0 : Int32) (1 : Int32)) [(.int 1)]) _
  refine XS.aloadN X0.here hx rfl (hb hby d22_5) rfl rfl ?_
  show GO p e below s₁ (mkF m 6 (la9 d1 (0 : Int32) (1 : Int32)) [(.ref d1), (.int 1)]) _
  refine X0.arraylength hx (by rw [e0]; exact Ar150.1) (State.isArrayOf_alike hZ.alike Ar150.2.1) (g := (mkF m 6 (la9 d1 (0 : Int32) (1 : Int32)) [(.ref d1), (.int 1)])) rfl rfl (hb hby d22_6) _ ?_
  rw [len_of S150 M150]
  show GO p e below s₁ (mkF m 7 (la9 d1 (0 : Int32) (1 : Int32)) [(.int 16), (.int 1)]) _
  refine XS.icmpNo X0.here hx rfl (hb hby d22_7) rfl (feq ((by decide) : ¬ ((1 : Int32) = (16 : Int32)))).1 ?_
  show GO p e below s₁ (mkF m 10 (la9 d1 (0 : Int32) (1 : Int32)) []) _
  refine XS.aloadN X0.here hx rfl (hb hby d22_10) rfl rfl ?_
  show GO p e below s₁ (mkF m 11 (la9 d1 (0 : Int32) (1 : Int32)) [(.ref d1)]) _
  refine XS.iloadN X0.here hx rfl (hb hby d22_11) rfl ?_
  show GO p e below s₁ (mkF m 12 (la9 d1 (0 : Int32) (1 : Int32)) [(.int 0), (.ref d1)]) _
  refine XS.iloadN X0.here hx rfl (hb hby d22_12) rfl ?_
  show GO p e below s₁ (mkF m 13 (la9 d1 (0 : Int32) (1 : Int32)) [(.int 1), (.int 0), (.ref d1)]) _
  refine st151 _ ?_
  show GO p e below T151 (mkF m 16 (la9 d1 (0 : Int32) (1 : Int32)) [(.ref t_151)]) _
  exact retOut X151 hx Bd.returns rfl (Or.inr (Or.inr (Or.inr (Or.inr ⟨rfl, rfl, rfl⟩)))) (hb hby d22_16) hr
 ·show Qrm_cr_1_16 Z d1 kd xe0 h0 n0 _ T151.heap _
  rw [e151]
  exact ⟨t_151, k_151, rfl, N151, ((Keep.refl h0 []).trans K151 all0), p151_0, p151_1, r151_0⟩
def Qrm_si2_1_16 (Z : State) (x1 : Addr) (u1 : Value) (u2 : Value) (a1 : Addr) (d1 : Addr) (kd : ClassId) (xe0 : Int32) (z0 : Int32) (h0 : Heap) (n0 : Nat) (v : Option Value) (h : Heap) (L : List Loc) : Prop := ∃ t : Addr, ∃ k : ClassId, v = none ∧ Fr n0 L ∧ Keep h0 h [x1] ∧ Exa Z h x1 kS1 ∧ Fld Z h x1 kS1 "coder" "B" (.int 0) ∧ Fld Z h x1 kS1 "value" "[B" (.ref t) ∧ Exa Z h t "[B" ∧ Arv Z h t k .byte (1 : Int32) [(.int xe0)] (.int 0) ∧ h0.size ≤ t
theorem ef_rm_si2_1_16 (m : MethodId) (x0 : Addr) (x1 : Addr) : entryFrame m #[(.ref x0), (.ref x1), .null] 5 = mkF m 0 (la14 x0 x1) [] := by first | rfl | (simp [entryFrame, mkF, argsToLocals, Value.category]; done)
theorem rm_si2_1_16 (l : Launch) (Z : State) (a0 : Array Value) (hw : HW Z a0) (ws : List Jvm.Cond) (x1 : Addr) (u1 : Value) (u2 : Value) (a1 : Addr) (d1 : Addr) (kd : ClassId) (xe0 : Int32) (z0 : Int32) (h0 : Heap) (n0 : Nat) (Z0 : n0 ≤ h0.size) (O0 : Old Z n0 h0) (Es : Exa Z h0 x1 kS1) (Fv1 : Fld Z h0 x1 kS1 "value" "[B" u1) (Fc1 : Fld Z h0 x1 kS1 "coder" "B" u2) (Eb : Exa Z h0 a1 kS2) (Fbv : Fld Z h0 a1 kS0 "value" "[B" (.ref d1)) (Fbc : Fld Z h0 a1 kS0 "coder" "B" (.int 0)) (Fbn : Fld Z h0 a1 kS0 "count" "I" (.int 1)) (Vb : Arv Z h0 d1 kd .byte (16 : Int32) [(.int xe0), (.int 0), (.int 0), (.int 0), (.int 0), (.int 0), (.int 0), (.int 0), (.int 0), (.int 0), (.int 0), (.int 0), (.int 0), (.int 0), (.int 0), (.int 0)] (.int 0)) (SZc : Sta Z Z.heap kS1 "COMPACT_STRINGS" "Z" (.int z0)) (hz0 : ¬ z0 = 0) (gx : n0 ≤ x1) :
  OwnM l Z h0 (⟨kS1, "<init>", "(Ljava/lang/AbstractStringBuilder;Ljava/lang/Void;)V"⟩ : MethodName) (Jvm.Cond.code (⟨kS1, "<init>", "(Ljava/lang/AbstractStringBuilder;Ljava/lang/Void;)V"⟩ : MethodName) jdk_42_method_150_code 5 none :: ws) (RM 3 1 1 49) #[(.ref x1), (.ref a1), .null] (Qrm_si2_1_16 Z x1 u1 u2 a1 d1 kd xe0 z0 h0 n0) := by
 refine MetFree.of_bodySF (plainFor_of_name pn_0) hisR ?_
 intro p e s m args below meth c s₁ Bd hml0 hP hK
 obtain ⟨rfl, hZ, hh⟩ := hP
 have hx := Bd.exec
 have hby := Bd.bytes
 have hml : c.maxLocals = 5 := hml0
 have hown : s.vm.findClass kS1 = some m.cls := findClass_of_methodNamed Bd.named
 have hnm := (name_of_methodNamed Bd.named Bd.method).1
 have X0 : Stand p l e (RM 3 1 1 49) s m #[(.ref x1), (.ref a1), .null] below meth c s₁ [] 0 0 := Stand.of_body Bd
 have e0 : s₁.heap = h0 := by rw [← hh, Bd.state]; rfl
 have N0 := Fr.nil n0
 have pre0 : ∀ t, GO p e below s₁ (mkF m 0 (la14 x1 a1) []) t → GO p e below s₁ (entryFrame m #[(.ref x1), (.ref a1), .null] 5) t := fun t k => castTop (ef_rm_si2_1_16 m x1 a1) k
 have lt_Es := ltA Es.lt
 have lt_Fv1 := ltA Fv1.lt
 have lt_Fc1 := ltA Fc1.lt
 have lt_Eb := ltA Eb.lt
 have lt_Fbv := ltA Fbv.lt
 have lt_Fbc := ltA Fbc.lt
 have lt_Fbn := ltA Fbn.lt
 have lt_Vb := ltA Vb.lt
 obtain ⟨T152, X152, e152, st152⟩ := initO X0 hx hZ hown (wd hw 11 rfl) (wd hw 12 rfl) (wd hw 13 rfl) e0 (g := (mkF m 1 (la14 x1 a1) [(.ref x1)])) rfl (by rw [hml]; rfl) rfl (hb hby d17_1) (by decide) (W := 0) (wz rfl) (by decide)
 -- pc 5: AbstractStringBuilder.getValue by rm_gv
 obtain ⟨cq153, kq153, q153a, q153b, q153c⟩ := isOf hZ e152 Eb
 obtain ⟨_, _, ⟨T153, L153, k153, n153⟩, -, X153, ⟨Lc153, hQ153, l153, y153, z153⟩, st153⟩ := X152.virtualBack hx (y := (⟨kS0, "getValue", "()[B"⟩ : MethodName)) (z := (⟨kS0, "getValue", "()[B"⟩ : MethodName)) hown (mvT hZ (wd hw 105 rfl)) (mvT hZ (wd hw 106 rfl)) (notFace_of_selects (args := #[]) (mvT hZ (wd hw 108 rfl))) (mvT hZ (wd hw 108 rfl)) (mvT hZ (wd hw 107 rfl)) (by decide) (backOf (W := 0) (rm_gv l Z a0 hw [] a1 d1 h0 n0 (by omega) Fbv) hZ (wd hw 109 rfl) (wd hw 36 rfl) (by decide) (by decide)) q153a q153c (g := (mkF m 5 (la14 x1 a1) [(.ref a1)])) rfl (by rw [hml]; rfl) (Steps.refl _) (argsL := []) (rest := []) (lenOf pd_14 rfl) rfl (wz rfl) (hb hby d17_5) (fun _ _ => ⟨rfl, e152, (by decide : 0 + 0 ≤ _), (by decide : 0 + 0 ≤ _)⟩)
 dsimp only [Pt.U, Pt.locs, Pt.cells, Pt.slots] at X153 l153 y153 z153 st153 hQ153
 subst l153 y153 z153
 obtain ⟨rfl, N153q, e153⟩ := hQ153
 have N153 := Fr.app N0 N153q
 -- pc 10: StringBuilder.length by rm_bl
 obtain ⟨cq154, kq154, q154a, q154b, q154c⟩ := isOf hZ e153 Eb
 obtain ⟨_, _, ⟨T154, L154, k154, n154⟩, -, X154, ⟨Lc154, hQ154, l154, y154, z154⟩, st154⟩ := X153.virtualBack hx (y := (⟨kS0, "length", "()I"⟩ : MethodName)) (z := (⟨kS2, "length", "()I"⟩ : MethodName)) hown (mvT hZ (wd hw 110 rfl)) (mvT hZ (wd hw 111 rfl)) (own_nf (args := #[]) (mvT hZ (wd hw 70 rfl)) rfl) (mvT hZ (wd hw 113 rfl)) (mvT hZ (wd hw 114 rfl)) (by decide) (backOf (W := 0) (rm_bl l Z a0 hw [] a1 (1 : Int32) h0 n0 (by omega) Eb Fbn) hZ (wd hw 115 rfl) (wd hw 28 rfl) (by decide) (by decide)) q154a q154c (g := (mkF m 10 (la15 x1 a1 d1) [(.ref a1)])) rfl (by rw [hml]; rfl) (Steps.refl _) (argsL := []) (rest := []) (lenOf pd_8 rfl) rfl (wz rfl) (hb hby d17_10) (fun _ _ => ⟨rfl, e153, (by decide : 0 + 0 ≤ _), (by decide : 0 + 0 ≤ _)⟩)
 dsimp only [Pt.U, Pt.locs, Pt.cells, Pt.slots] at X154 l154 y154 z154 st154 hQ154
 subst l154 y154 z154
 obtain ⟨rfl, N154q, e154⟩ := hQ154
 have N154 := Fr.app N153 N154q
 -- pc 16: AbstractStringBuilder.isLatin1 by rm_il
 obtain ⟨cq155, kq155, q155a, q155b, q155c⟩ := isOf hZ e154 Eb
 obtain ⟨_, _, ⟨T155, L155, k155, n155⟩, -, X155, ⟨Lc155, hQ155, l155, y155, z155⟩, st155⟩ := X154.virtualBack hx (y := (⟨kS0, "isLatin1", "()Z"⟩ : MethodName)) (z := (⟨kS0, "isLatin1", "()Z"⟩ : MethodName)) hown (mvT hZ (wd hw 118 rfl)) (mvT hZ (wd hw 119 rfl)) (notFace_of_selects (args := #[]) (mvT hZ (wd hw 121 rfl))) (mvT hZ (wd hw 121 rfl)) (mvT hZ (wd hw 120 rfl)) (by decide) (backOf (W := 0) (rm_il l Z a0 hw [] a1 z0 h0 n0 (by omega) O0 Fbc (by first | assumption | decide | omega) (by first | assumption | decide | omega)) hZ (wd hw 122 rfl) (wd hw 36 rfl) (by decide) (by decide)) q155a q155c (g := (mkF m 16 (la16 x1 a1 d1 (1 : Int32)) [(.ref a1)])) rfl (by rw [hml]; rfl) (Steps.refl _) (argsL := []) (rest := []) (lenOf pd_15 rfl) rfl (wz rfl) (hb hby d17_16) (fun _ _ => ⟨rfl, e154, (by decide : 0 + 0 ≤ _), (by decide : 0 + 0 ≤ _)⟩)
 dsimp only [Pt.U, Pt.locs, Pt.cells, Pt.slots] at X155 l155 y155 z155 st155 hQ155
 subst l155 y155 z155
 obtain ⟨rfl, N155q, e155⟩ := hQ155
 have N155 := Fr.app N154 N155q
 obtain ⟨T156, h156, X156, e156, W156, st156⟩ := putFN X155 hx hZ hown (wd hw 21 rfl) Via.refl e155 Fc1 Es (Or.inr ⟨(wd hw 17 rfl), rfl, hnm⟩) (wd hw 2 rfl) (ty := .byte) (v' := (.int 0)) (by decide) rfl rfl (g := (mkF m 24 (la16 x1 a1 d1 (1 : Int32)) [(.int 0), (.ref x1)])) rfl rfl (hb hby d17_24)
 have N156 := Fr.snoc X156 N155 (by omega : n0 ≤ x1)
 have ne157 : x1 ≠ a1 := ne_exa Es Eb (by decide)
 have ne158 : x1 ≠ d1 := Exa.neArv Es Vb (wd hw 2 rfl)
 have sz156 : h0.size ≤ h156.size := Nat.le_of_eq W156.size.symm
 have f156 : Fld Z h156 x1 kS1 "coder" "B" (.int 0) := Fc1.same W156
 -- pc 32: Arrays.copyOfRange by rm_cr_1_16
 have f160 : Arv Z h156 d1 kd .byte (16 : Int32) [(.int xe0), (.int 0), (.int 0), (.int 0), (.int 0), (.int 0), (.int 0), (.int 0), (.int 0), (.int 0), (.int 0), (.int 0), (.int 0), (.int 0), (.int 0), (.int 0)] (.int 0) := (Vb.other W156 (Ne.symm ne158))
 obtain ⟨_, _, ⟨T159, L159, k159, n159⟩, -, X159, ⟨Lc159, hQ159, l159, y159, z159⟩, st159⟩ := Jvm.LawKit.callS X156 hx (y := (⟨"java/util/Arrays", "copyOfRange", "([BII)[B"⟩ : MethodName)) hown (mvT hZ (wd hw 123 rfl)) (mvT hZ (wd hw 124 rfl)) (mvT hZ (wd hw 125 rfl)) (mvT hZ (wd hw 126 rfl)) (by decide) (backOf (W := 1) (rm_cr_1_16 l Z a0 hw [] d1 kd xe0 h156 n0 (by omega) f160) hZ (wd hw 126 rfl) (wd hw 125 rfl) (by decide) (by decide)) (g := (mkF m 32 (la16 x1 a1 d1 (1 : Int32)) [(.int 1), (.int 0), (.ref d1), (.ref x1)])) rfl (by rw [hml]; rfl) (argsL := [(.ref d1), (.int 0), (.int 1)]) (rest := [(.ref x1)]) (lenOf pd_13 rfl) rfl (wz rfl) (hb hby d17_32) (fun _ _ => ⟨rfl, e156, (by decide : 0 + 1 ≤ _), (by decide : 0 + 1 ≤ _)⟩)
 dsimp only [Pt.U, Pt.locs, Pt.cells, Pt.slots] at X159 l159 y159 z159 st159 hQ159
 subst l159 y159 z159
 obtain ⟨h159, e159⟩ : ∃ z, T159.heap = z := ⟨_, rfl⟩
 rw [e159] at hQ159
 obtain ⟨t_159, k_159, rfl, N159q, K159, p159_0, p159_1, r159_0⟩ := hQ159
 have N159 := Fr.app N156 N159q
 have sz159 : h156.size ≤ h159.size := K159.1
 have lt159_0 := ltA p159_0.lt
 have lt159_1 := ltA p159_1.lt
 have f161 : Fld Z h159 x1 kS1 "value" "[B" u1 := ((Fv1.other W156 (Or.inr (slot_ne (Or.inr (wd hw 16 rfl)) (Or.inr (wd hw 17 rfl)) (by decide) (t := (.array .byte)) (t' := .byte) (by decide) (by decide)))).keep K159 nin0)
 have f162 : Exa Z h159 x1 kS1 := ((Es.wr W156).keep K159)
 obtain ⟨T163, h163, X163, e163, W163, st163⟩ := putF X159 hx hZ hown (host := "") (Or.inl (wd hw 20 rfl)) Via.refl e159 f161 f162 (Or.inr ⟨(wd hw 16 rfl), rfl, hnm⟩) (wd hw 2 rfl) (ty := (.array .byte)) (by decide) rfl rfl (g := (mkF m 35 (la16 x1 a1 d1 (1 : Int32)) [(.ref t_159), (.ref x1)])) rfl rfl (hb hby d17_35)
 have N163 := Fr.snoc X163 N159 (by omega : n0 ≤ x1)
 have ne164 : x1 ≠ t_159 := ne_exa f162 p159_0 (by decide)
 have sz163 : h159.size ≤ h163.size := Nat.le_of_eq W163.size.symm
 have f163 : Fld Z h163 x1 kS1 "value" "[B" (.ref t_159) := f161.same W163
 have f165 : Exa Z h163 x1 kS1 := (f162.wr W163)
 have f166 : Fld Z h163 x1 kS1 "coder" "B" (.int 0) := ((f156.keep K159 nin0).other W163 (Or.inr (slot_ne (Or.inr (wd hw 17 rfl)) (Or.inr (wd hw 16 rfl)) (by decide) (t := .byte) (t' := (.array .byte)) (by decide) (by decide))))
 have f167 : Exa Z h163 t_159 "[B" := (p159_0.wr W163)
 have f168 : Arv Z h163 t_159 k_159 .byte (1 : Int32) [(.int xe0)] (.int 0) := (p159_1.other W163 (Ne.symm ne164))
 obtain ⟨fs, hr, hrun, hended, hW, hsame⟩ := X163.leave (v := none) (fun _ => rfl)
 refine ⟨_, _, pre0 _ ?_, hrun, hended, _, _, rfl, ?_, ⟨_, rfl⟩, hW, hsame.mono (by decide) (by decide)⟩
 ·show GO p e below s₁ (mkF m 0 (la14 x1 a1) []) _
  refine XS.aloadN X0.here hx rfl (hb hby d17_0) rfl rfl ?_
  show GO p e below s₁ (mkF m 1 (la14 x1 a1) [(.ref x1)]) _
  refine st152 _ ?_
  show GO p e below T152 (mkF m 4 (la14 x1 a1) []) _
  refine XS.aloadN X152.here hx rfl (hb hby d17_4) rfl rfl ?_
  show GO p e below T152 (mkF m 5 (la14 x1 a1) [(.ref a1)]) _
  refine st153.trans ?_
  show GO p e below T153 (mkF m 8 (la14 x1 a1) [(.ref d1)]) _
  refine XS.astoreN X153.here hx rfl (hb hby d17_8) rfl rfl (l' := (la15 x1 a1 d1)) rfl ?_
  show GO p e below T153 (mkF m 9 (la15 x1 a1 d1) []) _
  refine XS.aloadN X153.here hx rfl (hb hby d17_9) rfl rfl ?_
  show GO p e below T153 (mkF m 10 (la15 x1 a1 d1) [(.ref a1)]) _
  refine st154.trans ?_
  show GO p e below T154 (mkF m 13 (la15 x1 a1 d1) [(.int 1)]) _
  refine XS.istore X154.here hx rfl (hb hby d17_13) rfl (l' := (la16 x1 a1 d1 (1 : Int32))) rfl ?_
  show GO p e below T154 (mkF m 15 (la16 x1 a1 d1 (1 : Int32)) []) _
  refine XS.aloadN X154.here hx rfl (hb hby d17_15) rfl rfl ?_
  show GO p e below T154 (mkF m 16 (la16 x1 a1 d1 (1 : Int32)) [(.ref a1)]) _
  refine st155.trans ?_
  show GO p e below T155 (mkF m 19 (la16 x1 a1 d1 (1 : Int32)) [(.int 1)]) _
  refine XS.ifNo X155.here hx rfl (hb hby d17_19) rfl ((if0 _ _).trans (feq ((by decide) : ¬ ((1 : Int32) = (0 : Int32)))).1) ?_
  show GO p e below T155 (mkF m 22 (la16 x1 a1 d1 (1 : Int32)) []) _
  refine XS.aloadN X155.here hx rfl (hb hby d17_22) rfl rfl ?_
  show GO p e below T155 (mkF m 23 (la16 x1 a1 d1 (1 : Int32)) [(.ref x1)]) _
  refine XS.iconst X155.here hx rfl (hb hby d17_23) ?_
  show GO p e below T155 (mkF m 24 (la16 x1 a1 d1 (1 : Int32)) [(.int 0), (.ref x1)]) _
  refine st156 _ ?_
  show GO p e below T156 (mkF m 27 (la16 x1 a1 d1 (1 : Int32)) []) _
  refine XS.aloadN X156.here hx rfl (hb hby d17_27) rfl rfl ?_
  show GO p e below T156 (mkF m 28 (la16 x1 a1 d1 (1 : Int32)) [(.ref x1)]) _
  refine XS.aloadN X156.here hx rfl (hb hby d17_28) rfl rfl ?_
  show GO p e below T156 (mkF m 29 (la16 x1 a1 d1 (1 : Int32)) [(.ref d1), (.ref x1)]) _
  refine XS.iconst X156.here hx rfl (hb hby d17_29) ?_
  show GO p e below T156 (mkF m 30 (la16 x1 a1 d1 (1 : Int32)) [(.int 0), (.ref d1), (.ref x1)]) _
  refine XS.iload X156.here hx rfl (hb hby d17_30) rfl ?_
  show GO p e below T156 (mkF m 32 (la16 x1 a1 d1 (1 : Int32)) [(.int 1), (.int 0), (.ref d1), (.ref x1)]) _
  refine st159 _ ?_
  show GO p e below T159 (mkF m 35 (la16 x1 a1 d1 (1 : Int32)) [(.ref t_159), (.ref x1)]) _
  refine st163 _ ?_
  show GO p e below T163 (mkF m 38 (la16 x1 a1 d1 (1 : Int32)) []) _
  refine XS.goto X163.here hx rfl (pc0 := 38) (pc' := 97) rfl (hb hby d17_38) (by decide) (by decide) ?_
  show GO p e below T163 (mkF m 97 (la16 x1 a1 d1 (1 : Int32)) []) _
  exact X163.returnOut hx Bd.returns (hb hby d17_97) hr
 ·show Qrm_si2_1_16 Z x1 u1 u2 a1 d1 kd xe0 z0 h0 n0 _ T163.heap _
  rw [e163]
  exact ⟨t_159, k_159, rfl, N163, ((((Keep.refl h0 [x1]).wr W156 (Or.inl (List.mem_of_getElem? (i := 0) rfl))).trans K159 all0).wr W163 (Or.inl (List.mem_of_getElem? (i := 0) rfl))), f165, f166, f163, f167, f168, (by omega)⟩
def Qrm_si1_1_16 (Z : State) (x1 : Addr) (u1 : Value) (u2 : Value) (a1 : Addr) (d1 : Addr) (kd : ClassId) (xe0 : Int32) (z0 : Int32) (h0 : Heap) (n0 : Nat) (v : Option Value) (h : Heap) (L : List Loc) : Prop := ∃ t : Addr, ∃ k : ClassId, v = none ∧ Fr n0 L ∧ Keep h0 h [x1] ∧ Exa Z h x1 kS1 ∧ Fld Z h x1 kS1 "coder" "B" (.int 0) ∧ Fld Z h x1 kS1 "value" "[B" (.ref t) ∧ Exa Z h t "[B" ∧ Arv Z h t k .byte (1 : Int32) [(.int xe0)] (.int 0) ∧ h0.size ≤ t
theorem ef_rm_si1_1_16 (m : MethodId) (x0 : Addr) (x1 : Addr) : entryFrame m #[(.ref x0), (.ref x1)] 2 = mkF m 0 #[.val (.ref x0), .val (.ref x1)] [] := by first | rfl | (simp [entryFrame, mkF, argsToLocals, Value.category]; done)
theorem rm_si1_1_16 (l : Launch) (Z : State) (a0 : Array Value) (hw : HW Z a0) (ws : List Jvm.Cond) (x1 : Addr) (u1 : Value) (u2 : Value) (a1 : Addr) (d1 : Addr) (kd : ClassId) (xe0 : Int32) (z0 : Int32) (h0 : Heap) (n0 : Nat) (Z0 : n0 ≤ h0.size) (O0 : Old Z n0 h0) (Es : Exa Z h0 x1 kS1) (Fv1 : Fld Z h0 x1 kS1 "value" "[B" u1) (Fc1 : Fld Z h0 x1 kS1 "coder" "B" u2) (Eb : Exa Z h0 a1 kS2) (Fbv : Fld Z h0 a1 kS0 "value" "[B" (.ref d1)) (Fbc : Fld Z h0 a1 kS0 "coder" "B" (.int 0)) (Fbn : Fld Z h0 a1 kS0 "count" "I" (.int 1)) (Vb : Arv Z h0 d1 kd .byte (16 : Int32) [(.int xe0), (.int 0), (.int 0), (.int 0), (.int 0), (.int 0), (.int 0), (.int 0), (.int 0), (.int 0), (.int 0), (.int 0), (.int 0), (.int 0), (.int 0), (.int 0)] (.int 0)) (SZc : Sta Z Z.heap kS1 "COMPACT_STRINGS" "Z" (.int z0)) (hz0 : ¬ z0 = 0) (gx : n0 ≤ x1) :
  OwnM l Z h0 (⟨kS1, "<init>", "(Ljava/lang/StringBuilder;)V"⟩ : MethodName) (Jvm.Cond.code (⟨kS1, "<init>", "(Ljava/lang/StringBuilder;)V"⟩ : MethodName) jdk_42_method_53_code 2 none :: ws) (RM 4 1 1 65) #[(.ref x1), (.ref a1)] (Qrm_si1_1_16 Z x1 u1 u2 a1 d1 kd xe0 z0 h0 n0) := by
 refine MetFree.of_bodySF (plainFor_of_name pn_0) hisR ?_
 intro p e s m args below meth c s₁ Bd hml0 hP hK
 obtain ⟨rfl, hZ, hh⟩ := hP
 have hx := Bd.exec
 have hby := Bd.bytes
 have hml : c.maxLocals = 2 := hml0
 have hown : s.vm.findClass kS1 = some m.cls := findClass_of_methodNamed Bd.named
 have hnm := (name_of_methodNamed Bd.named Bd.method).1
 have X0 : Stand p l e (RM 4 1 1 65) s m #[(.ref x1), (.ref a1)] below meth c s₁ [] 0 0 := Stand.of_body Bd
 have e0 : s₁.heap = h0 := by rw [← hh, Bd.state]; rfl
 have N0 := Fr.nil n0
 have pre0 : ∀ t, GO p e below s₁ (mkF m 0 #[.val (.ref x1), .val (.ref a1)] []) t → GO p e below s₁ (entryFrame m #[(.ref x1), (.ref a1)] 2) t := fun t k => castTop (ef_rm_si1_1_16 m x1 a1) k
 have lt_Es := ltA Es.lt
 have lt_Fv1 := ltA Fv1.lt
 have lt_Fc1 := ltA Fc1.lt
 have lt_Eb := ltA Eb.lt
 have lt_Fbv := ltA Fbv.lt
 have lt_Fbc := ltA Fbc.lt
 have lt_Fbn := ltA Fbn.lt
 have lt_Vb := ltA Vb.lt
 -- pc 3: String.<init> by rm_si2_1_16
 obtain ⟨_, _, ⟨T169, L169, k169, n169⟩, -, X169, ⟨Lc169, hQ169, l169, y169, z169⟩, st169⟩ := X0.specialBack hx (y := (⟨kS1, "<init>", "(Ljava/lang/AbstractStringBuilder;Ljava/lang/Void;)V"⟩ : MethodName)) rfl hown (mvT hZ (wd hw 102 rfl)) (mvT hZ (wd hw 103 rfl)) (mvT hZ (wd hw 104 rfl)) (by decide) (backOf (W := 0) (rm_si2_1_16 l Z a0 hw [] x1 u1 u2 a1 d1 kd xe0 z0 h0 n0 (by omega) O0 Es Fv1 Fc1 Eb Fbv Fbc Fbn Vb (by first | assumption | decide | omega) (by first | assumption | decide | omega) (by first | assumption | decide | omega)) hZ (wd hw 104 rfl) (wd hw 3 rfl) (by decide) (by decide)) (g := (mkF m 3 #[.val (.ref x1), .val (.ref a1)] [.null, (.ref a1), (.ref x1)])) rfl (by rw [hml]; rfl) (Steps.refl _) (a := x1) (argsL := [(.ref a1), .null]) (rest := []) (lenOf pd_16 rfl) rfl (wz rfl) (hb hby d16_3) (fun _ _ => ⟨rfl, e0, (by decide : 0 + 1 ≤ _), (by decide : 0 + 1 ≤ _)⟩)
 dsimp only [Pt.U, Pt.locs, Pt.cells, Pt.slots] at X169 l169 y169 z169 st169 hQ169
 subst l169 y169 z169
 obtain ⟨h169, e169⟩ : ∃ z, T169.heap = z := ⟨_, rfl⟩
 rw [e169] at hQ169
 obtain ⟨t_169, k_169, rfl, N169q, K169, p169_0, p169_1, p169_2, p169_3, p169_4, r169_0⟩ := hQ169
 have N169 := Fr.app N0 N169q
 have sz169 : h0.size ≤ h169.size := K169.1
 have lt169_0 := ltA p169_0.lt
 have lt169_3 := ltA p169_3.lt
 have lt169_4 := ltA p169_4.lt
 obtain ⟨fs, hr, hrun, hended, hW, hsame⟩ := X169.leave (v := none) (fun _ => rfl)
 refine ⟨_, _, pre0 _ ?_, hrun, hended, _, _, rfl, ?_, ⟨_, rfl⟩, hW, hsame.mono (by decide) (by decide)⟩
 ·show GO p e below s₁ (mkF m 0 #[.val (.ref x1), .val (.ref a1)] []) _
  refine XS.aloadN X0.here hx rfl (hb hby d16_0) rfl rfl ?_
  show GO p e below s₁ (mkF m 1 #[.val (.ref x1), .val (.ref a1)] [(.ref x1)]) _
  refine XS.aloadN X0.here hx rfl (hb hby d16_1) rfl rfl ?_
  show GO p e below s₁ (mkF m 2 #[.val (.ref x1), .val (.ref a1)] [(.ref a1), (.ref x1)]) _
  refine XS.aconstNull X0.here hx rfl (hb hby d16_2) ?_
  show GO p e below s₁ (mkF m 3 #[.val (.ref x1), .val (.ref a1)] [.null, (.ref a1), (.ref x1)]) _
  refine st169.trans ?_
  show GO p e below T169 (mkF m 6 #[.val (.ref x1), .val (.ref a1)] []) _
  exact X169.returnOut hx Bd.returns (hb hby d16_6) hr
 ·show Qrm_si1_1_16 Z x1 u1 u2 a1 d1 kd xe0 z0 h0 n0 _ T169.heap _
  rw [e169]
  exact ⟨t_169, k_169, rfl, N169, ((Keep.refl h0 [x1]).trans K169 (allS (P := fun x => x ∈ _ ∨ _) (Or.inl (List.mem_of_getElem? (i := 0) rfl)) all0)), p169_0, p169_1, p169_2, p169_3, p169_4, r169_0⟩
def Qrm_ts_1_16 (Z : State) (a1 : Addr) (d1 : Addr) (kd : ClassId) (xe0 : Int32) (z0 : Int32) (h0 : Heap) (n0 : Nat) (v : Option Value) (h : Heap) (L : List Loc) : Prop := ∃ x : Addr, ∃ t : Addr, ∃ k : ClassId, v = some (.ref x) ∧ Fr n0 L ∧ Keep h0 h [] ∧ Exa Z h x kS1 ∧ Fld Z h x kS1 "coder" "B" (.int 0) ∧ Fld Z h x kS1 "value" "[B" (.ref t) ∧ Exa Z h t "[B" ∧ Arv Z h t k .byte (1 : Int32) [(.int xe0)] (.int 0) ∧ h0.size ≤ x ∧ h0.size ≤ t
theorem ef_rm_ts_1_16 (m : MethodId) (x0 : Addr) : entryFrame m #[(.ref x0)] 1 = mkF m 0 #[.val (.ref x0)] [] := by first | rfl | (simp [entryFrame, mkF, argsToLocals, Value.category]; done)
theorem rm_ts_1_16 (l : Launch) (Z : State) (a0 : Array Value) (hw : HW Z a0) (ws : List Jvm.Cond) (a1 : Addr) (d1 : Addr) (kd : ClassId) (xe0 : Int32) (z0 : Int32) (h0 : Heap) (n0 : Nat) (Z0 : n0 ≤ h0.size) (O0 : Old Z n0 h0) (Eb : Exa Z h0 a1 kS2) (Fbv : Fld Z h0 a1 kS0 "value" "[B" (.ref d1)) (Fbc : Fld Z h0 a1 kS0 "coder" "B" (.int 0)) (Fbn : Fld Z h0 a1 kS0 "count" "I" (.int 1)) (Vb : Arv Z h0 d1 kd .byte (16 : Int32) [(.int xe0), (.int 0), (.int 0), (.int 0), (.int 0), (.int 0), (.int 0), (.int 0), (.int 0), (.int 0), (.int 0), (.int 0), (.int 0), (.int 0), (.int 0), (.int 0)] (.int 0)) (SZc : Sta Z Z.heap kS1 "COMPACT_STRINGS" "Z" (.int z0)) (hz0 : ¬ z0 = 0) :
  OwnM l Z h0 (⟨kS2, "toString", "()Ljava/lang/String;"⟩ : MethodName) (Jvm.Cond.code (⟨kS2, "toString", "()Ljava/lang/String;"⟩ : MethodName) jdk_67_method_42_code 1 (some (.object kS1)) :: ws) (RM 5 2 5 79) #[(.ref a1)] (Qrm_ts_1_16 Z a1 d1 kd xe0 z0 h0 n0) := by
 refine MetFree.of_bodySF (plainFor_of_name pn_3) hisR ?_
 intro p e s m args below meth c s₁ Bd hml0 hP hK
 obtain ⟨rfl, hZ, hh⟩ := hP
 have hx := Bd.exec
 have hby := Bd.bytes
 have hml : c.maxLocals = 1 := hml0
 have hown : s.vm.findClass kS2 = some m.cls := findClass_of_methodNamed Bd.named
 have hnm := (name_of_methodNamed Bd.named Bd.method).1
 have X0 : Stand p l e (RM 5 2 5 79) s m #[(.ref a1)] below meth c s₁ [] 0 0 := Stand.of_body Bd
 have e0 : s₁.heap = h0 := by rw [← hh, Bd.state]; rfl
 have N0 := Fr.nil n0
 have pre0 : ∀ t, GO p e below s₁ (mkF m 0 #[.val (.ref a1)] []) t → GO p e below s₁ (entryFrame m #[(.ref a1)] 1) t := fun t k => castTop (ef_rm_ts_1_16 m a1) k
 have lt_Eb := ltA Eb.lt
 have lt_Fbv := ltA Fbv.lt
 have lt_Fbc := ltA Fbc.lt
 have lt_Fbn := ltA Fbn.lt
 have lt_Vb := ltA Vb.lt
 obtain ⟨T170, h170, X170, e170, E170, A170, D170, U170, st170⟩ := newO X0 hx hZ hown (wd hw 98 rfl) (wd hw 2 rfl) (wd hw 3 rfl) e0 (g := (mkF m 0 #[.val (.ref a1)] [])) rfl (hb hby d15_0) (by decide) (by decide)
 obtain ⟨b170, g170⟩ : ∃ z, z = h0.size := ⟨_, rfl⟩
 rw [← g170] at A170 D170 U170 st170
 have sz170 : h0.size ≤ h170.size := E170.1
 have lt170 := ltA A170.lt
 have f171 : Fld Z h170 b170 kS1 "value" "[B" .null := D170 (Or.inr (wd hw 16 rfl)) (ty := (.array .byte)) (by decide)
 have f172 : Fld Z h170 b170 kS1 "coder" "B" (.int 0) := D170 (Or.inr (wd hw 17 rfl)) (ty := .byte) (by decide)
 -- pc 5: String.<init> by rm_si1_1_16
 have f174 : Old Z n0 h170 := (O0.ext E170)
 have f175 : Exa Z h170 a1 kS2 := (Eb.ext E170)
 have f176 : Fld Z h170 a1 kS0 "value" "[B" (.ref d1) := (Fbv.ext E170)
 have f177 : Fld Z h170 a1 kS0 "coder" "B" (.int 0) := (Fbc.ext E170)
 have f178 : Fld Z h170 a1 kS0 "count" "I" (.int 1) := (Fbn.ext E170)
 have f179 : Arv Z h170 d1 kd .byte (16 : Int32) [(.int xe0), (.int 0), (.int 0), (.int 0), (.int 0), (.int 0), (.int 0), (.int 0), (.int 0), (.int 0), (.int 0), (.int 0), (.int 0), (.int 0), (.int 0), (.int 0)] (.int 0) := (Vb.ext E170)
 obtain ⟨_, _, ⟨T173, L173, k173, n173⟩, -, X173, ⟨Lc173, hQ173, l173, y173, z173⟩, st173⟩ := X170.specialBack hx (y := (⟨kS1, "<init>", "(Ljava/lang/StringBuilder;)V"⟩ : MethodName)) rfl hown (mvT hZ (wd hw 99 rfl)) (mvT hZ (wd hw 100 rfl)) (mvT hZ (wd hw 101 rfl)) (by decide) (backOf (W := 1) (rm_si1_1_16 l Z a0 hw [] b170 .null (.int 0) a1 d1 kd xe0 z0 h170 n0 (by omega) f174 A170 f171 f172 f175 f176 f177 f178 f179 (by first | assumption | decide | omega) (by first | assumption | decide | omega) (by first | assumption | decide | omega)) hZ (wd hw 101 rfl) (wd hw 3 rfl) (by decide) (by decide)) (g := (mkF m 5 #[.val (.ref a1)] [(.ref a1), (.ref b170), (.ref b170)])) rfl (by rw [hml]; rfl) (Steps.refl _) (a := b170) (argsL := [(.ref a1)]) (rest := [(.ref b170)]) (lenOf pd_17 rfl) rfl (wz rfl) (hb hby d15_5) (fun _ _ => ⟨rfl, e170, (by decide : 1 + 1 ≤ _), (by decide : 4 + 1 ≤ _)⟩)
 dsimp only [Pt.U, Pt.locs, Pt.cells, Pt.slots] at X173 l173 y173 z173 st173 hQ173
 subst l173 y173 z173
 obtain ⟨h173, e173⟩ : ∃ z, T173.heap = z := ⟨_, rfl⟩
 rw [e173] at hQ173
 obtain ⟨t_173, k_173, rfl, N173q, K173, p173_0, p173_1, p173_2, p173_3, p173_4, r173_0⟩ := hQ173
 have N173 := Fr.app N0 N173q
 have sz173 : h170.size ≤ h173.size := K173.1
 have lt173_0 := ltA p173_0.lt
 have lt173_3 := ltA p173_3.lt
 have lt173_4 := ltA p173_4.lt
 obtain ⟨fs, hr, hrun, hended, hW, hsame⟩ := X173.leave (v := some (.ref b170)) (fun h => by rw [Bd.returns] at h; cases h)
 refine ⟨_, _, pre0 _ ?_, hrun, hended, _, _, rfl, ?_, ⟨_, rfl⟩, hW, hsame.mono (by decide) (by decide)⟩
 ·show GO p e below s₁ (mkF m 0 #[.val (.ref a1)] []) _
  refine st170 _ ?_
  show GO p e below T170 (mkF m 3 #[.val (.ref a1)] [(.ref b170)]) _
  refine XS.dup X170.here hx rfl (hb hby d15_3) rfl rfl ?_
  show GO p e below T170 (mkF m 4 #[.val (.ref a1)] [(.ref b170), (.ref b170)]) _
  refine XS.aloadN X170.here hx rfl (hb hby d15_4) rfl rfl ?_
  show GO p e below T170 (mkF m 5 #[.val (.ref a1)] [(.ref a1), (.ref b170), (.ref b170)]) _
  refine st173.trans ?_
  show GO p e below T173 (mkF m 8 #[.val (.ref a1)] [(.ref b170)]) _
  exact retOut X173 hx Bd.returns rfl (Or.inr (Or.inr (Or.inr (Or.inr ⟨rfl, rfl, rfl⟩)))) (hb hby d15_8) hr
 ·show Qrm_ts_1_16 Z a1 d1 kd xe0 z0 h0 n0 _ T173.heap _
  rw [e173]
  exact ⟨b170, t_173, k_173, rfl, N173, (((Keep.refl h0 []).ext E170).trans K173 (allS (P := fun x => x ∈ _ ∨ _) (Or.inr (by omega)) all0)), p173_0, p173_1, p173_2, p173_3, p173_4, (by omega), (by omega)⟩
def Qrm_line0 (Z : State) (q0 : Addr) (q1 : Addr) (q2 : Addr) (x1 : Addr) (t1 : Addr) (k1 : ClassId) (z0 : Int32) (h0 : Heap) (n0 : Nat) (v : Option Value) (h : Heap) (L : List Loc) : Prop := ∃ t : Addr, ∃ k : ClassId, v = some (.ref t) ∧ Fr n0 L ∧ Keep h0 h [] ∧ Arv Z h t k .byte (1 : Int32) [(.int 10)] (.int 0)
theorem ef_rm_line0 (m : MethodId) (x0 : Addr) : entryFrame m #[(.ref x0)] 1 = mkF m 0 #[.val (.ref x0)] [] := by first | rfl | (simp [entryFrame, mkF, argsToLocals, Value.category]; done)
theorem rm_line0 (l : Launch) (Z : State) (a0 : Array Value) (hw : HW Z a0) (ws : List Jvm.Cond) (q0 : Addr) (q1 : Addr) (q2 : Addr) (x1 : Addr) (t1 : Addr) (k1 : ClassId) (z0 : Int32) (h0 : Heap) (n0 : Nat) (Z0 : n0 ≤ h0.size) (O0 : Old Z n0 h0) (Esx1 : Exa Z h0 x1 kS1) (Fcx1 : Fld Z h0 x1 kS1 "coder" "B" (.int 0)) (Fvx1 : Fld Z h0 x1 kS1 "value" "[B" (.ref t1)) (Vsx1 : Arv Z h0 t1 k1 .byte (0 : Int32) [] (.int 0)) (SZc : Sta Z Z.heap kS1 "COMPACT_STRINGS" "Z" (.int z0)) (hz0 : ¬ z0 = 0) (HC : OwnC Z q0 q1 q2) :
  OwnW l Z h0 (⟨"com/example/holdtube/holdtube/Seal", "line", "(Ljava/lang/String;)[B"⟩ : MethodName) (Jvm.Cond.code (⟨"com/example/holdtube/holdtube/Seal", "line", "(Ljava/lang/String;)[B"⟩ : MethodName) prog_22_method_4_code 1 (some (.array .byte)) :: ws) (RM 6 7 34 91) #[(.ref x1)] [] (Qrm_line0 Z q0 q1 q2 x1 t1 k1 z0 h0 n0) := by
 refine MetFree.of_bodySF (plainFor_of_name pn_5) hisR ?_
 intro p e s m args below meth c s₁ Bd hml0 hP hK
 obtain ⟨rfl, hZ, hh, H0, sf⟩ := hP
 have hx := Bd.exec
 have hby := Bd.bytes
 have hml : c.maxLocals = 1 := hml0
 have hown : s.vm.findClass "com/example/holdtube/holdtube/Seal" = some m.cls := findClass_of_methodNamed Bd.named
 have hnm := (name_of_methodNamed Bd.named Bd.method).1
 have X0 : Stand p l e (RM 6 7 34 91) (s.setVm s.vm) m #[(.ref x1)] below meth c s₁ [] 0 0 := Stand.of_body Bd
 have hS0 : s.Since s.vm h0.size := (State.WarmedH.refl s).since _
 have C0 : CHr Z EL1 s.vm h0 s.vm h0 := CHr.refl H0
 have e0 : s₁.heap = h0 := by rw [← hh, Bd.state]; rfl
 have N0 := Fr.nil n0
 have pre0 : ∀ t, GO p e below s₁ (mkF m 0 #[.val (.ref x1)] []) t → GO p e below s₁ (entryFrame m #[(.ref x1)] 1) t := fun t k => castTop (ef_rm_line0 m x1) k
 have lt_Esx1 := ltA Esx1.lt
 have lt_Fcx1 := ltA Fcx1.lt
 have lt_Fvx1 := ltA Fvx1.lt
 have lt_Vsx1 := ltA Vsx1.lt
 obtain ⟨SZq0, SZqa, SZq1, SZq2, nq1, nq2⟩ := HC
 obtain ⟨T180, h180, X180, e180, E180, A180, D180, U180, st180⟩ := newO X0 hx hZ hown (wd hw 26 rfl) (wd hw 27 rfl) (wd hw 28 rfl) e0 (g := (mkF m 0 #[.val (.ref x1)] [])) rfl (hb hby d4_0) (by decide) (by decide)
 obtain ⟨b180, g180⟩ : ∃ z, z = h0.size := ⟨_, rfl⟩
 rw [← g180] at A180 D180 U180 st180
 have C181 : CHr Z EL1 s.vm h0 s.vm h180 := C0.trans (CHr.ext E180 C0.1)
 have sz180 : h0.size ≤ h180.size := E180.1
 have lt180 := ltA A180.lt
 have f182 : Fld Z h180 b180 kS0 "value" "[B" .null := D180 (Or.inl (wd hw 41 rfl)) (ty := (.array .byte)) (by decide)
 have f183 : Fld Z h180 b180 kS0 "coder" "B" (.int 0) := D180 (Or.inl (wd hw 43 rfl)) (ty := .byte) (by decide)
 have f184 : Fld Z h180 b180 kS0 "count" "I" (.int 0) := D180 (Or.inl (wd hw 66 rfl)) (ty := .int) (by decide)
 -- pc 4: StringBuilder.<init> by rm_bi
 have f186 : Old Z n0 h180 := (O0.ext E180)
 obtain ⟨_, _, ⟨T185, L185, k185, n185⟩, -, X185, ⟨Lc185, hQ185, l185, y185, z185⟩, st185⟩ := X180.specialBack hx (y := (⟨kS2, "<init>", "()V"⟩ : MethodName)) rfl hown (mvT hZ (wd hw 29 rfl)) (mvT hZ (wd hw 30 rfl)) (mvT hZ (wd hw 31 rfl)) (by decide) (backOf (W := 1) (rm_bi l Z a0 hw [] b180 .null (.int 0) z0 h180 n0 (by omega) f186 A180 f182 f183 f184 (by first | assumption | decide | omega) (by first | assumption | decide | omega) (by first | assumption | decide | omega)) hZ (wd hw 31 rfl) (wd hw 28 rfl) (by decide) (by decide)) (g := (mkF m 4 #[.val (.ref x1)] [(.ref b180), (.ref b180)])) rfl (by rw [hml]; rfl) (Steps.refl _) (a := b180) (argsL := []) (rest := [(.ref b180)]) (lenOf pd_18 rfl) rfl (wz rfl) (hb hby d4_4) (fun _ _ => ⟨rfl, e180, (by decide : 1 + 1 ≤ _), (by decide : 4 + 16 ≤ _)⟩)
 dsimp only [Pt.U, Pt.locs, Pt.cells, Pt.slots] at X185 l185 y185 z185 st185 hQ185
 subst l185 y185 z185
 obtain ⟨h185, e185⟩ : ∃ z, T185.heap = z := ⟨_, rfl⟩
 rw [e185] at hQ185
 obtain ⟨d_185, k_185, rfl, N185q, K185, p185_0, p185_1, p185_2, p185_3, p185_4, r185_0⟩ := hQ185
 have N185 := Fr.app N0 N185q
 have f187 : Exa Z h180 x1 kS1 := (Esx1.ext E180)
 have ne188 : b180 ≠ x1 := ne_exa A180 f187 (by decide)
 have f189 : Arv Z h180 t1 k1 .byte (0 : Int32) [] (.int 0) := (Vsx1.ext E180)
 have ne190 : b180 ≠ t1 := Exa.neArv A180 f189 (wd hw 27 rfl)
 have C191 : CHr Z EL1 s.vm h0 s.vm h185 := C181.trans (CHr.keep K185 (sfS (Safe.exa hZ.alike A180 (by decide) (by decide)) sf0) C181.1)
 have sz185 : h180.size ≤ h185.size := K185.1
 have lt185_0 := ltA p185_0.lt
 have lt185_4 := ltA p185_4.lt
 have B185_d_185 : Safe Z EL1 s.vm h185 d_185 := Safe.keep K185 (sfS (Safe.exa hZ.alike A180 (by decide) (by decide)) sf0) C181.1 (Safe.new (by omega))
 -- pc 8: StringBuilder.append by rm_sa_0_0_16
 have f193 : Old Z n0 h185 := (f186.keep K185 (allS (by omega) all0))
 have f194 : Exa Z h185 x1 kS1 := (f187.keep K185)
 have f195 : Fld Z h185 x1 kS1 "coder" "B" (.int 0) := ((Fcx1.ext E180).keep K185 (ninS (Ne.symm ne188) nin0))
 have f196 : Fld Z h185 x1 kS1 "value" "[B" (.ref t1) := ((Fvx1.ext E180).keep K185 (ninS (Ne.symm ne188) nin0))
 have f197 : Arv Z h185 t1 k1 .byte (0 : Int32) [] (.int 0) := (f189.keep K185 (ninS (Ne.symm ne190) nin0))
 obtain ⟨cq192, kq192, q192a, q192b, q192c⟩ := isOf hZ e185 p185_0
 obtain ⟨_, _, ⟨T192, L192, k192, n192⟩, -, X192, ⟨Lc192, hQ192, l192, y192, z192⟩, st192⟩ := X185.virtualBack hx (y := (⟨kS2, "append", "(Ljava/lang/String;)Ljava/lang/StringBuilder;"⟩ : MethodName)) (z := (⟨kS2, "append", "(Ljava/lang/String;)Ljava/lang/StringBuilder;"⟩ : MethodName)) hown (mvT hZ (wd hw 44 rfl)) (mvT hZ (wd hw 45 rfl)) (notFace_of_selects (args := #[]) (mvT hZ (wd hw 47 rfl))) (mvT hZ (wd hw 47 rfl)) (mvT hZ (wd hw 46 rfl)) (by decide) (backOf (W := 0) (rm_sa_0_0_16 l Z a0 hw [] x1 t1 k1 b180 d_185 k_185 z0 h185 n0 (by omega) f193 f194 f195 f196 f197 p185_0 p185_1 p185_2 p185_3 p185_4 (by first | assumption | decide | omega) (by first | assumption | decide | omega) (by first | assumption | decide | omega) (by first | assumption | decide | omega) (neN (by omega))) hZ (wd hw 48 rfl) (wd hw 28 rfl) (by decide) (by decide)) q192a q192c (g := (mkF m 8 #[.val (.ref x1)] [(.ref x1), (.ref b180)])) rfl (by rw [hml]; rfl) (Steps.refl _) (argsL := [(.ref x1)]) (rest := []) (lenOf pd_19 rfl) rfl (wz rfl) (hb hby d4_8) (fun _ _ => ⟨rfl, e185, (by decide : 2 + 0 ≤ _), (by decide : 20 + 0 ≤ _)⟩)
 dsimp only [Pt.U, Pt.locs, Pt.cells, Pt.slots] at X192 l192 y192 z192 st192 hQ192
 subst l192 y192 z192
 obtain ⟨h192, e192⟩ : ∃ z, T192.heap = z := ⟨_, rfl⟩
 rw [e192] at hQ192
 obtain ⟨rfl, N192q, K192, p192_0, p192_1, p192_2, p192_3, p192_4⟩ := hQ192
 have N192 := Fr.app N185 N192q
 have ne198 : d_185 ≠ x1 := Ne.symm (Exa.neArv f194 p185_4 (wd hw 2 rfl))
 have C199 : CHr Z EL1 s.vm h0 s.vm h192 := C191.trans (CHr.keep K192 (sfS (Safe.exa hZ.alike p185_0 (by decide) (by decide)) (sfS B185_d_185 sf0)) C191.1)
 have sz192 : h185.size ≤ h192.size := K192.1
 have lt192_0 := ltA p192_0.lt
 have lt192_4 := ltA p192_4.lt
 obtain ⟨sa200, T200, h200, kk200, sb200, sk200, X200, e200, E200, hS200, hk200, hZ200, hown200, A200, Fc200, Fv200, V200, lt200, ltb200, C200w, Lt200, ne200, st200⟩ := ldcCH X192 hx hZ hown (wd hw 92 rfl) (own_wS hw) e192 hS0 (by omega) (own_EW hw) (by decide) C199.1 (vs := [(.int 10)]) (z := (1 : Int32)) (by decide +kernel) (by decide) (by decide) (g := (mkF m 11 #[.val (.ref x1)] [(.ref b180)])) rfl (hb hby d4_11) (n := 4) (by decide) (by decide) (by decide) (by decide)
 have C201 : CHr Z EL1 s.vm h0 T200.vm h200 := C199.trans (C200w)
 have sz200 : h192.size ≤ h200.size := E200.1
 have lv200 := ltA lt200
 have lw200 := ltA ltb200
 have f202 : Safe Z EL1 T200.vm h200 d_185 := (CHr.safe C200w (ltN (by omega)) (Safe.keep K192 (sfS (Safe.exa hZ.alike p185_0 (by decide) (by decide)) (sfS B185_d_185 sf0)) C191.1 B185_d_185))
 have nx200_d_185 := ne200 d_185 f202
 have f203 : Exa Z h200 b180 kS2 := (p192_0.ext E200)
 have nx200_b180 := ne200 b180 (Safe.exa hZ200.alike f203 (by decide) (by decide))
 -- pc 13: StringBuilder.append by rm_sa_1_0_16
 have f205 : Old Z n0 h200 := ((f193.keep K192 (allS (by omega) (allS (by omega) all0))).ext E200)
 have f206 : Fld Z h200 b180 kS0 "value" "[B" (.ref d_185) := (p192_1.ext E200)
 have f207 : Fld Z h200 b180 kS0 "coder" "B" (.int 0) := (p192_2.ext E200)
 have f208 : Fld Z h200 b180 kS0 "count" "I" (.int 0) := (p192_3.ext E200)
 have f209 : Arv Z h200 d_185 k_185 .byte (16 : Int32) [(.int 0), (.int 0), (.int 0), (.int 0), (.int 0), (.int 0), (.int 0), (.int 0), (.int 0), (.int 0), (.int 0), (.int 0), (.int 0), (.int 0), (.int 0), (.int 0)] (.int 0) := (p192_4.ext E200)
 obtain ⟨cq204, kq204, q204a, q204b, q204c⟩ := isOf hZ200 e200 f203
 obtain ⟨_, _, ⟨T204, L204, k204, n204⟩, -, X204, ⟨Lc204, hQ204, l204, y204, z204⟩, st204⟩ := X200.virtualBack hx (y := (⟨kS2, "append", "(Ljava/lang/String;)Ljava/lang/StringBuilder;"⟩ : MethodName)) (z := (⟨kS2, "append", "(Ljava/lang/String;)Ljava/lang/StringBuilder;"⟩ : MethodName)) hown200 (mvT hZ200 (wd hw 44 rfl)) (mvT hZ200 (wd hw 45 rfl)) (notFace_of_selects (args := #[]) (mvT hZ200 (wd hw 47 rfl))) (mvT hZ200 (wd hw 47 rfl)) (mvT hZ200 (wd hw 46 rfl)) (by decide) (backOf (W := 0) (rm_sa_1_0_16 l Z a0 hw [] sa200 sb200 sk200 (10 : Int32) b180 d_185 k_185 z0 h200 n0 (by omega) f205 A200 Fc200 Fv200 V200 f203 f206 f207 f208 f209 (by first | assumption | decide | omega) (by first | assumption | decide | omega) (by first | assumption | decide | omega) (by first | assumption | decide | omega) (Ne.symm nx200_d_185.2)) hZ200 (wd hw 48 rfl) (wd hw 28 rfl) (by decide) (by decide)) q204a q204c (g := (mkF m 13 #[.val (.ref x1)] [(.ref sa200), (.ref b180)])) rfl (by rw [hml]; rfl) (Steps.refl _) (argsL := [(.ref sa200)]) (rest := []) (lenOf pd_19 rfl) rfl (wz rfl) (hb hby d4_13) (fun _ _ => ⟨rfl, e200, (by decide : 4 + 0 ≤ _), (by decide : 28 + 0 ≤ _)⟩)
 dsimp only [Pt.U, Pt.locs, Pt.cells, Pt.slots] at X204 l204 y204 z204 st204 hQ204
 subst l204 y204 z204
 obtain ⟨h204, e204⟩ : ∃ z, T204.heap = z := ⟨_, rfl⟩
 rw [e204] at hQ204
 obtain ⟨rfl, N204q, K204, p204_0, p204_1, p204_2, p204_3, p204_4⟩ := hQ204
 have N204 := Fr.app N192 N204q
 have C210 : CHr Z EL1 s.vm h0 T200.vm h204 := C201.trans (CHr.keep K204 (sfS (Safe.exa hZ200.alike f203 (by decide) (by decide)) (sfS f202 sf0)) C201.1)
 have sz204 : h200.size ≤ h204.size := K204.1
 have lt204_0 := ltA p204_0.lt
 have lt204_4 := ltA p204_4.lt
 -- pc 16: StringBuilder.toString by rm_ts_1_16
 have f212 : Old Z n0 h204 := (f205.keep K204 (allS (by omega) (allS (by omega) all0)))
 obtain ⟨cq211, kq211, q211a, q211b, q211c⟩ := isOf hZ200 e204 p204_0
 obtain ⟨_, _, ⟨T211, L211, k211, n211⟩, -, X211, ⟨Lc211, hQ211, l211, y211, z211⟩, st211⟩ := X204.virtualBack hx (y := (⟨kS2, "toString", "()Ljava/lang/String;"⟩ : MethodName)) (z := (⟨kS2, "toString", "()Ljava/lang/String;"⟩ : MethodName)) hown200 (mvT hZ200 (wd hw 93 rfl)) (mvT hZ200 (wd hw 94 rfl)) (notFace_of_selects (args := #[]) (mvT hZ200 (wd hw 96 rfl))) (mvT hZ200 (wd hw 96 rfl)) (mvT hZ200 (wd hw 95 rfl)) (by decide) (backOf (W := 0) (rm_ts_1_16 l Z a0 hw [] b180 d_185 k_185 (10 : Int32) z0 h204 n0 (by omega) f212 p204_0 p204_1 p204_2 p204_3 p204_4 (by first | assumption | decide | omega) (by first | assumption | decide | omega)) hZ200 (wd hw 97 rfl) (wd hw 28 rfl) (by decide) (by decide)) q211a q211c (g := (mkF m 16 #[.val (.ref x1)] [(.ref b180)])) rfl (by rw [hml]; rfl) (Steps.refl _) (argsL := []) (rest := []) (lenOf pd_20 rfl) rfl (wz rfl) (hb hby d4_16) (fun _ _ => ⟨rfl, e204, (by decide : 4 + 2 ≤ _), (by decide : 28 + 5 ≤ _)⟩)
 dsimp only [Pt.U, Pt.locs, Pt.cells, Pt.slots] at X211 l211 y211 z211 st211 hQ211
 subst l211 y211 z211
 obtain ⟨h211, e211⟩ : ∃ z, T211.heap = z := ⟨_, rfl⟩
 rw [e211] at hQ211
 obtain ⟨x_211, t_211, k_211, rfl, N211q, K211, p211_0, p211_1, p211_2, p211_3, p211_4, r211_0, r211_1⟩ := hQ211
 have N211 := Fr.app N204 N211q
 have C213 : CHr Z EL1 s.vm h0 T200.vm h211 := C210.trans (CHr.keep K211 sf0 C210.1)
 have sz211 : h204.size ≤ h211.size := K211.1
 have lt211_0 := ltA p211_0.lt
 have lt211_3 := ltA p211_3.lt
 have lt211_4 := ltA p211_4.lt
 have B211_x_211 : Safe Z EL1 T200.vm h211 x_211 := Safe.keep K211 sf0 C210.1 (Safe.new (by omega))
 have B211_t_211 : Safe Z EL1 T200.vm h211 t_211 := Safe.keep K211 sf0 C210.1 (Safe.new (by omega))
 have f214 : Old Z n0 h211 := (f212.keep K211 all0)
 have S215 : Sta Z h211 "java/nio/charset/StandardCharsets" "US_ASCII" "Ljava/nio/charset/Charset;" (.ref q0) := SZq0.ext f214.2
 obtain ⟨T216, X216, e216, st216⟩ := getS2 X211 hx hZ200 hown200 (host := "") (Or.inl (wd hw 138 rfl)) Via.refl e211 S215 (g := (mkF m 19 #[.val (.ref x1)] [(.ref x_211)])) rfl (hb hby d4_19)
 -- pc 22: String.getBytes by rm_gbc1
 obtain ⟨cq217, kq217, q217a, q217b, q217c⟩ := isOf hZ200 e216 p211_0
 obtain ⟨_, _, ⟨T217, L217, k217, n217⟩, -, X217, ⟨Lc217, hQ217, l217, y217, z217⟩, st217⟩ := X216.virtualBack hx (y := (⟨kS1, "getBytes", "(Ljava/nio/charset/Charset;)[B"⟩ : MethodName)) (z := (⟨kS1, "getBytes", "(Ljava/nio/charset/Charset;)[B"⟩ : MethodName)) hown200 (mvT hZ200 (wd hw 140 rfl)) (mvT hZ200 (wd hw 141 rfl)) (notFace_of_selects (args := #[]) (mvT hZ200 (wd hw 143 rfl))) (mvT hZ200 (wd hw 143 rfl)) (mvT hZ200 (wd hw 142 rfl)) (by decide) (backOf (W := 0) (rm_gbc1 l Z a0 hw [] q0 q1 q2 x_211 t_211 k_211 (10 : Int32) z0 h211 n0 (by omega) f214 p211_0 p211_1 p211_2 p211_4 p211_3 (by first | assumption | decide | omega) (by first | assumption | decide | omega) ⟨SZq0, SZqa, SZq1, SZq2, nq1, nq2⟩ (by first | assumption | decide | omega)) hZ200 (wd hw 144 rfl) (wd hw 3 rfl) (by decide) (by decide)) q217a q217c (g := (mkF m 22 #[.val (.ref x1)] [(.ref q0), (.ref x_211)])) rfl (by rw [hml]; rfl) (Steps.refl _) (argsL := [(.ref q0)]) (rest := []) (lenOf pd_21 rfl) rfl (wz rfl) (hb hby d4_22) (fun _ _ => ⟨rfl, e216, (by decide : 6 + 1 ≤ _), (by decide : 33 + 1 ≤ _)⟩)
 dsimp only [Pt.U, Pt.locs, Pt.cells, Pt.slots] at X217 l217 y217 z217 st217 hQ217
 subst l217 y217 z217
 obtain ⟨h217, e217⟩ : ∃ z, T217.heap = z := ⟨_, rfl⟩
 rw [e217] at hQ217
 obtain ⟨t_217, k_217, rfl, N217q, K217, p217_0⟩ := hQ217
 have N217 := Fr.app N211 N217q
 have C218 : CHr Z EL1 s.vm h0 T200.vm h217 := C213.trans (CHr.keep K217 sf0 C213.1)
 have sz217 : h211.size ≤ h217.size := K217.1
 have lt217_0 := ltA p217_0.lt
 obtain ⟨fs, hr, hrun, hended, hE⟩ := X217.leaveW hS200 (by rw [e217]; omega) (v := some (.ref t_217)) (fun h => by rw [Bd.returns] at h; cases h)
 have CE := C218.trans (CHv.at X217 hZ200 (own_EW hw) C218.1)
 refine ⟨_, _, pre0 _ ?_, hrun, hended, _, _, rfl, ?_, ?_, ⟨hE.1, hE.2.1, hE.2.2.1, hE.2.2.2.mono (by decide) (by decide)⟩⟩
 ·show GO p e below s₁ (mkF m 0 #[.val (.ref x1)] []) _
  refine st180 _ ?_
  show GO p e below T180 (mkF m 3 #[.val (.ref x1)] [(.ref b180)]) _
  refine XS.dup X180.here hx rfl (hb hby d4_3) rfl rfl ?_
  show GO p e below T180 (mkF m 4 #[.val (.ref x1)] [(.ref b180), (.ref b180)]) _
  refine st185.trans ?_
  show GO p e below T185 (mkF m 7 #[.val (.ref x1)] [(.ref b180)]) _
  refine XS.aloadN X185.here hx rfl (hb hby d4_7) rfl rfl ?_
  show GO p e below T185 (mkF m 8 #[.val (.ref x1)] [(.ref x1), (.ref b180)]) _
  refine st192.trans ?_
  show GO p e below T192 (mkF m 11 #[.val (.ref x1)] [(.ref b180)]) _
  refine st200 _ ?_
  show GO p e below T200 (mkF m 13 #[.val (.ref x1)] [(.ref sa200), (.ref b180)]) _
  refine st204.trans ?_
  show GO p e below T204 (mkF m 16 #[.val (.ref x1)] [(.ref b180)]) _
  refine st211.trans ?_
  show GO p e below T211 (mkF m 19 #[.val (.ref x1)] [(.ref x_211)]) _
  refine st216 _ ?_
  show GO p e below T216 (mkF m 22 #[.val (.ref x1)] [(.ref q0), (.ref x_211)]) _
  refine st217.trans ?_
  show GO p e below T217 (mkF m 25 #[.val (.ref x1)] [(.ref t_217)]) _
  exact retOut X217 hx Bd.returns rfl (Or.inr (Or.inr (Or.inr (Or.inr ⟨rfl, rfl, rfl⟩)))) (hb hby d4_25) hr
 ·show Qrm_line0 Z q0 q1 q2 x1 t1 k1 z0 h0 n0 _ T217.heap _
  rw [e217]
  exact ⟨t_217, k_217, rfl, N217, ((((((((Keep.refl h0 []).ext E180).trans K185 (allS (P := fun x => x ∈ _ ∨ _) (Or.inr (by omega)) all0)).trans K192 (allS (P := fun x => x ∈ _ ∨ _) (Or.inr (by omega)) (allS (P := fun x => x ∈ _ ∨ _) (Or.inr (by omega)) all0))).ext E200).trans K204 (allS (P := fun x => x ∈ _ ∨ _) (Or.inr (by omega)) (allS (P := fun x => x ∈ _ ∨ _) (Or.inr (by omega)) all0))).trans K211 all0).trans K217 all0), p217_0⟩
 ·show CHr Z EL1 s.vm s.heap T217.vm T217.heap
  rw [hh, e217]
  exact CE
def Qrm_cp2 (Z : State) (t1 : Addr) (k1 : ClassId) (xs0 : Int32) (xs1 : Int32) (h0 : Heap) (n0 : Nat) (v : Option Value) (h : Heap) (L : List Loc) : Prop := v = some (.int 2) ∧ Fr n0 L ∧ h = h0
theorem ef_rm_cp2 (m : MethodId) (x0 : Addr) (x1 : Int32) (x2 : Int32) : entryFrame m #[(.ref x0), (.int x1), (.int x2)] 5 = mkF m 0 (la1 x0 x1 x2) [] := by first | rfl | (simp [entryFrame, mkF, argsToLocals, Value.category]; done)
theorem rm_cp2 (l : Launch) (Z : State) (a0 : Array Value) (hw : HW Z a0) (ws : List Jvm.Cond) (t1 : Addr) (k1 : ClassId) (xs0 : Int32) (xs1 : Int32) (h0 : Heap) (n0 : Nat) (Z0 : n0 ≤ h0.size) (V1 : Arv Z h0 t1 k1 .byte (2 : Int32) [(.int xs0), (.int xs1)] (.int 0)) (hg0 : ¬ xs0 < 0) (hg1 : ¬ xs1 < 0) :
  OwnM l Z h0 (⟨"java/lang/StringCoding", "countPositives", "([BII)I"⟩ : MethodName) (Jvm.Cond.code (⟨"java/lang/StringCoding", "countPositives", "([BII)I"⟩ : MethodName) jdk_123_method_3_code 5 (some .int) :: ws) (RM 0 0 0 0) #[(.ref t1), (.int 0), (.int 2)] (Qrm_cp2 Z t1 k1 xs0 xs1 h0 n0) := by
 refine MetFree.of_bodySF (plainFor_of_name pn_1) hisR ?_
 intro p e s m args below meth c s₁ Bd hml0 hP hK
 obtain ⟨rfl, hZ, hh⟩ := hP
 have hx := Bd.exec
 have hby := Bd.bytes
 have hml : c.maxLocals = 5 := hml0
 have hown : s.vm.findClass "java/lang/StringCoding" = some m.cls := findClass_of_methodNamed Bd.named
 have hnm := (name_of_methodNamed Bd.named Bd.method).1
 have X0 : Stand p l e (RM 0 0 0 0) s m #[(.ref t1), (.int 0), (.int 2)] below meth c s₁ [] 0 0 := Stand.of_body Bd
 have e0 : s₁.heap = h0 := by rw [← hh, Bd.state]; rfl
 have N0 := Fr.nil n0
 have pre0 : ∀ t, GO p e below s₁ (mkF m 0 (la1 t1 (0 : Int32) (2 : Int32)) []) t → GO p e below s₁ (entryFrame m #[(.ref t1), (.int 0), (.int 2)] 5) t := fun t k => castTop (ef_rm_cp2 m t1 ((0 : Int32)) ((2 : Int32))) k
 have lt_V1 := ltA V1.lt
 obtain ⟨cl219, Ar219, q219, S219, M219, H219, G219⟩ := id V1
 have hin219 : ¬ ((0 : Int32) < 0 ∨ cl219.slots.size ≤ ((0 : Int32)).toNatClampNeg) := inb_of S219 ⟨by decide, by decide⟩
 have hat219 : cl219.slots[((0 : Int32)).toNatClampNeg]? = some (.int xs0) := Has.at H219 hin219 rfl
 obtain ⟨cl220, Ar220, q220, S220, M220, H220, G220⟩ := id V1
 have hin220 : ¬ ((1 : Int32) < 0 ∨ cl220.slots.size ≤ ((1 : Int32)).toNatClampNeg) := inb_of S220 ⟨by decide, by decide⟩
 have hat220 : cl220.slots[((1 : Int32)).toNatClampNeg]? = some (.int xs1) := Has.at H220 hin220 rfl
 obtain ⟨fs, hr, hrun, hended, hW, hsame⟩ := X0.leave (v := some (.int 2)) (fun h => by rw [Bd.returns] at h; cases h)
 refine ⟨_, _, pre0 _ ?_, hrun, hended, _, _, rfl, ?_, ⟨_, rfl⟩, hW, hsame.mono (by decide) (by decide)⟩
 ·show GO p e below s₁ (mkF m 0 (la1 t1 (0 : Int32) (2 : Int32)) []) _
  refine XS.iloadN X0.here hx rfl (hb hby d29_0) rfl ?_
  show GO p e below s₁ (mkF m 1 (la1 t1 (0 : Int32) (2 : Int32)) [(.int 0)]) _
  refine XS.iloadN X0.here hx rfl (hb hby d29_1) rfl ?_
  show GO p e below s₁ (mkF m 2 (la1 t1 (0 : Int32) (2 : Int32)) [(.int 2), (.int 0)]) _
  refine XS.iadd X0.here hx rfl (hb hby d29_2) rfl ?_
  rw [show ((0 : Int32) + (2 : Int32)) = (2 : Int32) from by decide]
  show GO p e below s₁ (mkF m 3 (la1 t1 (0 : Int32) (2 : Int32)) [(.int 2)]) _
  refine XS.istoreN X0.here hx rfl (hb hby d29_3) rfl (l' := (la2 t1 (0 : Int32) (2 : Int32) (2 : Int32))) rfl ?_
  show GO p e below s₁ (mkF m 4 (la2 t1 (0 : Int32) (2 : Int32) (2 : Int32)) []) _
  refine XS.iloadN X0.here hx rfl (hb hby d29_4) rfl ?_
  show GO p e below s₁ (mkF m 5 (la2 t1 (0 : Int32) (2 : Int32) (2 : Int32)) [(.int 0)]) _
  refine XS.istore X0.here hx rfl (hb hby d29_5) rfl (l' := (la3 t1 (0 : Int32) (2 : Int32) (2 : Int32) (0 : Int32))) rfl ?_
  show GO p e below s₁ (mkF m 7 (la3 t1 (0 : Int32) (2 : Int32) (2 : Int32) (0 : Int32)) []) _
  refine XS.iload X0.here hx rfl (hb hby d29_7) rfl ?_
  show GO p e below s₁ (mkF m 9 (la3 t1 (0 : Int32) (2 : Int32) (2 : Int32) (0 : Int32)) [(.int 0)]) _
  refine XS.iloadN X0.here hx rfl (hb hby d29_9) rfl ?_
  show GO p e below s₁ (mkF m 10 (la3 t1 (0 : Int32) (2 : Int32) (2 : Int32) (0 : Int32)) [(.int 2), (.int 0)]) _
  refine XS.icmpNo X0.here hx rfl (hb hby d29_10) rfl (tlt ((by decide) : (0 : Int32) < (2 : Int32))).2.1 ?_
  show GO p e below s₁ (mkF m 13 (la3 t1 (0 : Int32) (2 : Int32) (2 : Int32) (0 : Int32)) []) _
  refine XS.aloadN X0.here hx rfl (hb hby d29_13) rfl rfl ?_
  show GO p e below s₁ (mkF m 14 (la3 t1 (0 : Int32) (2 : Int32) (2 : Int32) (0 : Int32)) [(.ref t1)]) _
  refine XS.iload X0.here hx rfl (hb hby d29_14) rfl ?_
  show GO p e below s₁ (mkF m 16 (la3 t1 (0 : Int32) (2 : Int32) (2 : Int32) (0 : Int32)) [(.int 0), (.ref t1)]) _
  refine X0.baloadBytes hx (j := (0 : Int32)) (v := (.int xs0)) (by rw [e0]; exact Ar219.1) (State.isArrayOf_alike hZ.alike Ar219.2.1) Ar219.2.2 hin219 hat219 (g := (mkF m 16 (la3 t1 (0 : Int32) (2 : Int32) (2 : Int32) (0 : Int32)) [(.int 0), (.ref t1)])) rfl rfl (hb hby d29_16) _ ?_
  show GO p e below s₁ (mkF m 17 (la3 t1 (0 : Int32) (2 : Int32) (2 : Int32) (0 : Int32)) [(.int xs0)]) _
  refine XS.ifYes X0.here hx rfl (pc0 := 17) (pc' := 25) rfl (hb hby d29_17) rfl ((if0 _ _).trans (flt (hg0 : ¬ (xs0 < (0 : Int32)))).2.1) (by decide) (by decide) ?_
  show GO p e below s₁ (mkF m 25 (la3 t1 (0 : Int32) (2 : Int32) (2 : Int32) (0 : Int32)) []) _
  refine XS.iinc X0.here hx rfl (hb hby d29_25) rfl (l' := (la3 t1 (0 : Int32) (2 : Int32) (2 : Int32) ((0 : Int32) + (1 : Int32)))) rfl ?_
  rw [show ((0 : Int32) + (1 : Int32)) = (1 : Int32) from by decide]
  show GO p e below s₁ (mkF m 28 (la3 t1 (0 : Int32) (2 : Int32) (2 : Int32) (1 : Int32)) []) _
  refine XS.goto X0.here hx rfl (pc0 := 28) (pc' := 7) rfl (hb hby d29_28) (by decide) (by decide) ?_
  show GO p e below s₁ (mkF m 7 (la3 t1 (0 : Int32) (2 : Int32) (2 : Int32) (1 : Int32)) []) _
  refine XS.iload X0.here hx rfl (hb hby d29_7) rfl ?_
  show GO p e below s₁ (mkF m 9 (la3 t1 (0 : Int32) (2 : Int32) (2 : Int32) (1 : Int32)) [(.int 1)]) _
  refine XS.iloadN X0.here hx rfl (hb hby d29_9) rfl ?_
  show GO p e below s₁ (mkF m 10 (la3 t1 (0 : Int32) (2 : Int32) (2 : Int32) (1 : Int32)) [(.int 2), (.int 1)]) _
  refine XS.icmpNo X0.here hx rfl (hb hby d29_10) rfl (tlt ((by decide) : (1 : Int32) < (2 : Int32))).2.1 ?_
  show GO p e below s₁ (mkF m 13 (la3 t1 (0 : Int32) (2 : Int32) (2 : Int32) (1 : Int32)) []) _
  refine XS.aloadN X0.here hx rfl (hb hby d29_13) rfl rfl ?_
  show GO p e below s₁ (mkF m 14 (la3 t1 (0 : Int32) (2 : Int32) (2 : Int32) (1 : Int32)) [(.ref t1)]) _
  refine XS.iload X0.here hx rfl (hb hby d29_14) rfl ?_
  show GO p e below s₁ (mkF m 16 (la3 t1 (0 : Int32) (2 : Int32) (2 : Int32) (1 : Int32)) [(.int 1), (.ref t1)]) _
  refine X0.baloadBytes hx (j := (1 : Int32)) (v := (.int xs1)) (by rw [e0]; exact Ar220.1) (State.isArrayOf_alike hZ.alike Ar220.2.1) Ar220.2.2 hin220 hat220 (g := (mkF m 16 (la3 t1 (0 : Int32) (2 : Int32) (2 : Int32) (1 : Int32)) [(.int 1), (.ref t1)])) rfl rfl (hb hby d29_16) _ ?_
  show GO p e below s₁ (mkF m 17 (la3 t1 (0 : Int32) (2 : Int32) (2 : Int32) (1 : Int32)) [(.int xs1)]) _
  refine XS.ifYes X0.here hx rfl (pc0 := 17) (pc' := 25) rfl (hb hby d29_17) rfl ((if0 _ _).trans (flt (hg1 : ¬ (xs1 < (0 : Int32)))).2.1) (by decide) (by decide) ?_
  show GO p e below s₁ (mkF m 25 (la3 t1 (0 : Int32) (2 : Int32) (2 : Int32) (1 : Int32)) []) _
  refine XS.iinc X0.here hx rfl (hb hby d29_25) rfl (l' := (la3 t1 (0 : Int32) (2 : Int32) (2 : Int32) ((1 : Int32) + (1 : Int32)))) rfl ?_
  rw [show ((1 : Int32) + (1 : Int32)) = (2 : Int32) from by decide]
  show GO p e below s₁ (mkF m 28 (la3 t1 (0 : Int32) (2 : Int32) (2 : Int32) (2 : Int32)) []) _
  refine XS.goto X0.here hx rfl (pc0 := 28) (pc' := 7) rfl (hb hby d29_28) (by decide) (by decide) ?_
  show GO p e below s₁ (mkF m 7 (la3 t1 (0 : Int32) (2 : Int32) (2 : Int32) (2 : Int32)) []) _
  refine XS.iload X0.here hx rfl (hb hby d29_7) rfl ?_
  show GO p e below s₁ (mkF m 9 (la3 t1 (0 : Int32) (2 : Int32) (2 : Int32) (2 : Int32)) [(.int 2)]) _
  refine XS.iloadN X0.here hx rfl (hb hby d29_9) rfl ?_
  show GO p e below s₁ (mkF m 10 (la3 t1 (0 : Int32) (2 : Int32) (2 : Int32) (2 : Int32)) [(.int 2), (.int 2)]) _
  refine XS.icmpYes X0.here hx rfl (pc0 := 10) (pc' := 31) rfl (hb hby d29_10) rfl (flt ((by decide) : ¬ ((2 : Int32) < (2 : Int32)))).2.1 (by decide) (by decide) ?_
  show GO p e below s₁ (mkF m 31 (la3 t1 (0 : Int32) (2 : Int32) (2 : Int32) (2 : Int32)) []) _
  refine XS.iloadN X0.here hx rfl (hb hby d29_31) rfl ?_
  show GO p e below s₁ (mkF m 32 (la3 t1 (0 : Int32) (2 : Int32) (2 : Int32) (2 : Int32)) [(.int 2)]) _
  exact retI X0 hx Bd.returns (hb hby d29_32) hr
 ·show Qrm_cp2 Z t1 k1 xs0 xs1 h0 n0 _ s₁.heap _
  rw [e0]
  exact ⟨rfl, N0, rfl⟩
def Qrm_ea2 (Z : State) (t1 : Addr) (k1 : ClassId) (xs0 : Int32) (xs1 : Int32) (h0 : Heap) (n0 : Nat) (v : Option Value) (h : Heap) (L : List Loc) : Prop := ∃ t : Addr, ∃ k : ClassId, v = some (.ref t) ∧ Fr n0 L ∧ Keep h0 h [] ∧ Arv Z h t k .byte (2 : Int32) [(.int xs0), (.int xs1)] (.int 0)
theorem ef_rm_ea2 (m : MethodId) (x0 : Int32) (x1 : Addr) : entryFrame m #[(.int x0), (.ref x1)] 7 = mkF m 0 (la4 x0 x1) [] := by first | rfl | (simp [entryFrame, mkF, argsToLocals, Value.category]; done)
theorem rm_ea2 (l : Launch) (Z : State) (a0 : Array Value) (hw : HW Z a0) (ws : List Jvm.Cond) (t1 : Addr) (k1 : ClassId) (xs0 : Int32) (xs1 : Int32) (h0 : Heap) (n0 : Nat) (Z0 : n0 ≤ h0.size) (E1 : Exa Z h0 t1 "[B") (V1 : Arv Z h0 t1 k1 .byte (2 : Int32) [(.int xs0), (.int xs1)] (.int 0)) (hg0 : ¬ xs0 < 0) (hg1 : ¬ xs1 < 0) :
  OwnM l Z h0 (⟨kS1, "encodeASCII", "(B[B)[B"⟩ : MethodName) (Jvm.Cond.code (⟨kS1, "encodeASCII", "(B[B)[B"⟩ : MethodName) jdk_42_method_24_code 7 (some (.array .byte)) :: ws) (RM 1 1 2 16) #[(.int 0), (.ref t1)] (Qrm_ea2 Z t1 k1 xs0 xs1 h0 n0) := by
 refine MetFree.of_bodySF (plainFor_of_name pn_0) hisR ?_
 intro p e s m args below meth c s₁ Bd hml0 hP hK
 obtain ⟨rfl, hZ, hh⟩ := hP
 have hx := Bd.exec
 have hby := Bd.bytes
 have hml : c.maxLocals = 7 := hml0
 have hown : s.vm.findClass kS1 = some m.cls := findClass_of_methodNamed Bd.named
 have hnm := (name_of_methodNamed Bd.named Bd.method).1
 have X0 : Stand p l e (RM 1 1 2 16) s m #[(.int 0), (.ref t1)] below meth c s₁ [] 0 0 := Stand.of_body Bd
 have e0 : s₁.heap = h0 := by rw [← hh, Bd.state]; rfl
 have N0 := Fr.nil n0
 have pre0 : ∀ t, GO p e below s₁ (mkF m 0 (la4 (0 : Int32) t1) []) t → GO p e below s₁ (entryFrame m #[(.int 0), (.ref t1)] 7) t := fun t k => castTop (ef_rm_ea2 m ((0 : Int32)) t1) k
 have lt_E1 := ltA E1.lt
 have lt_V1 := ltA V1.lt
 obtain ⟨cl221, Ar221, -, S221, M221, -, -⟩ := id V1
 -- pc 8: StringCoding.countPositives by rm_cp2
 obtain ⟨_, _, ⟨T222, L222, k222, n222⟩, -, X222, ⟨Lc222, hQ222, l222, y222, z222⟩, st222⟩ := Jvm.LawKit.callS X0 hx (y := (⟨"java/lang/StringCoding", "countPositives", "([BII)I"⟩ : MethodName)) hown (mvT hZ (wd hw 157 rfl)) (mvT hZ (wd hw 158 rfl)) (mvT hZ (wd hw 159 rfl)) (mvT hZ (wd hw 160 rfl)) (by decide) (backOf (W := 0) (rm_cp2 l Z a0 hw [] t1 k1 xs0 xs1 h0 n0 (by omega) V1 (by first | assumption | decide | omega) (by first | assumption | decide | omega)) hZ (wd hw 160 rfl) (wd hw 159 rfl) (by decide) (by decide)) (g := (mkF m 8 (la4 (0 : Int32) t1) [(.int 2), (.int 0), (.ref t1)])) rfl (by rw [hml]; rfl) (argsL := [(.ref t1), (.int 0), (.int 2)]) (rest := []) (lenOf pd_1 rfl) rfl (wz rfl) (hb hby d28_8) (fun _ _ => ⟨rfl, e0, (by decide : 0 + 0 ≤ _), (by decide : 0 + 0 ≤ _)⟩)
 dsimp only [Pt.U, Pt.locs, Pt.cells, Pt.slots] at X222 l222 y222 z222 st222 hQ222
 subst l222 y222 z222
 obtain ⟨rfl, N222q, e222⟩ := hQ222
 have N222 := Fr.app N0 N222q
 obtain ⟨T223, h223, X223, e223, E223, A223, D223, st223⟩ := cloneH X222 hx hZ hown (wd hw 161 rfl) (wd hw 162 rfl) (wd hw 166 rfl) (wd hw 164 rfl) (wd hw 165 rfl) (wd hw 167 rfl) e222 (Arv.arh V1) E1 (g := (mkF m 13 (la5 (0 : Int32) t1 (2 : Int32)) [(.ref t1)])) rfl (by rw [hml]; rfl) rfl (hb hby d28_13) (by decide) (W := 0) (cap := 2) (wz rfl) (by decide) (by decide) (by decide) (by decide)
 obtain ⟨b223, g223⟩ : ∃ z, z = h0.size := ⟨_, rfl⟩
 rw [← g223] at A223 D223 st223
 have sz223 : h0.size ≤ h223.size := E223.1
 have V223 : Arv Z h223 b223 k1 .byte (2 : Int32) [(.int xs0), (.int xs1)] (.int 0) := A223
 have lt223 := ltA V223.lt
 obtain ⟨T224, X224, e224, st224⟩ := castY X223 hx hZ hown (wd hw 168 rfl) e223 (Ins.self D223) (g := (mkF m 16 (la5 (0 : Int32) t1 (2 : Int32)) [(.ref b223)])) rfl rfl (hb hby d28_16)
 obtain ⟨cl225, Ar225, -, S225, M225, -, -⟩ := id V223
 obtain ⟨fs, hr, hrun, hended, hW, hsame⟩ := X224.leave (v := some (.ref b223)) (fun h => by rw [Bd.returns] at h; cases h)
 refine ⟨_, _, pre0 _ ?_, hrun, hended, _, _, rfl, ?_, ⟨_, rfl⟩, hW, hsame.mono (by decide) (by decide)⟩
 ·show GO p e below s₁ (mkF m 0 (la4 (0 : Int32) t1) []) _
  refine XS.iloadN X0.here hx rfl (hb hby d28_0) rfl ?_
  show GO p e below s₁ (mkF m 1 (la4 (0 : Int32) t1) [(.int 0)]) _
  refine XS.ifNo X0.here hx rfl (hb hby d28_1) rfl ((if0 _ _).trans (teq (rfl : (0 : Int32) = (0 : Int32))).2) ?_
  show GO p e below s₁ (mkF m 4 (la4 (0 : Int32) t1) []) _
  refine XS.aloadN X0.here hx rfl (hb hby d28_4) rfl rfl ?_
  show GO p e below s₁ (mkF m 5 (la4 (0 : Int32) t1) [(.ref t1)]) _
  refine XS.iconst X0.here hx rfl (hb hby d28_5) ?_
  show GO p e below s₁ (mkF m 6 (la4 (0 : Int32) t1) [(.int 0), (.ref t1)]) _
  refine XS.aloadN X0.here hx rfl (hb hby d28_6) rfl rfl ?_
  show GO p e below s₁ (mkF m 7 (la4 (0 : Int32) t1) [(.ref t1), (.int 0), (.ref t1)]) _
  refine X0.arraylength hx (by rw [e0]; exact Ar221.1) (State.isArrayOf_alike hZ.alike Ar221.2.1) (g := (mkF m 7 (la4 (0 : Int32) t1) [(.ref t1), (.int 0), (.ref t1)])) rfl rfl (hb hby d28_7) _ ?_
  rw [len_of S221 M221]
  show GO p e below s₁ (mkF m 8 (la4 (0 : Int32) t1) [(.int 2), (.int 0), (.ref t1)]) _
  refine st222 _ ?_
  show GO p e below T222 (mkF m 11 (la4 (0 : Int32) t1) [(.int 2)]) _
  refine XS.istoreN X222.here hx rfl (hb hby d28_11) rfl (l' := (la5 (0 : Int32) t1 (2 : Int32))) rfl ?_
  show GO p e below T222 (mkF m 12 (la5 (0 : Int32) t1 (2 : Int32)) []) _
  refine XS.aloadN X222.here hx rfl (hb hby d28_12) rfl rfl ?_
  show GO p e below T222 (mkF m 13 (la5 (0 : Int32) t1 (2 : Int32)) [(.ref t1)]) _
  refine st223 _ ?_
  show GO p e below T223 (mkF m 16 (la5 (0 : Int32) t1 (2 : Int32)) [(.ref b223)]) _
  refine st224 _ ?_
  show GO p e below T224 (mkF m 19 (la5 (0 : Int32) t1 (2 : Int32)) [(.ref b223)]) _
  refine XS.astoreN X224.here hx rfl (hb hby d28_19) rfl rfl (l' := (la6 (0 : Int32) t1 (2 : Int32) b223)) rfl ?_
  show GO p e below T224 (mkF m 20 (la6 (0 : Int32) t1 (2 : Int32) b223) []) _
  refine XS.iloadN X224.here hx rfl (hb hby d28_20) rfl ?_
  show GO p e below T224 (mkF m 21 (la6 (0 : Int32) t1 (2 : Int32) b223) [(.int 2)]) _
  refine XS.aloadN X224.here hx rfl (hb hby d28_21) rfl rfl ?_
  show GO p e below T224 (mkF m 22 (la6 (0 : Int32) t1 (2 : Int32) b223) [(.ref b223), (.int 2)]) _
  refine X224.arraylength hx (by rw [e224]; exact Ar225.1) (State.isArrayOf_alike hZ.alike Ar225.2.1) (g := (mkF m 22 (la6 (0 : Int32) t1 (2 : Int32) b223) [(.ref b223), (.int 2)])) rfl rfl (hb hby d28_22) _ ?_
  rw [len_of S225 M225]
  show GO p e below T224 (mkF m 23 (la6 (0 : Int32) t1 (2 : Int32) b223) [(.int 2), (.int 2)]) _
  refine XS.icmpYes X224.here hx rfl (pc0 := 23) (pc' := 31) rfl (hb hby d28_23) rfl (flt ((by decide) : ¬ ((2 : Int32) < (2 : Int32)))).2.1 (by decide) (by decide) ?_
  show GO p e below T224 (mkF m 31 (la6 (0 : Int32) t1 (2 : Int32) b223) []) _
  refine XS.aloadN X224.here hx rfl (hb hby d28_31) rfl rfl ?_
  show GO p e below T224 (mkF m 32 (la6 (0 : Int32) t1 (2 : Int32) b223) [(.ref b223)]) _
  exact retOut X224 hx Bd.returns rfl (Or.inr (Or.inr (Or.inr (Or.inr ⟨rfl, rfl, rfl⟩)))) (hb hby d28_32) hr
 ·show Qrm_ea2 Z t1 k1 xs0 xs1 h0 n0 _ T224.heap _
  rw [e224]
  exact ⟨b223, k1, rfl, N222, ((Keep.refl h0 []).ext E223), V223⟩
def Qrm_enc2 (Z : State) (q0 : Addr) (q1 : Addr) (q2 : Addr) (t1 : Addr) (k1 : ClassId) (xs0 : Int32) (xs1 : Int32) (h0 : Heap) (n0 : Nat) (v : Option Value) (h : Heap) (L : List Loc) : Prop := ∃ t : Addr, ∃ k : ClassId, v = some (.ref t) ∧ Fr n0 L ∧ Keep h0 h [] ∧ Arv Z h t k .byte (2 : Int32) [(.int xs0), (.int xs1)] (.int 0)
theorem ef_rm_enc2 (m : MethodId) (x0 : Addr) (x1 : Int32) (x2 : Addr) : entryFrame m #[(.ref x0), (.int x1), (.ref x2)] 3 = mkF m 0 (la7 x0 x1 x2) [] := by first | rfl | (simp [entryFrame, mkF, argsToLocals, Value.category]; done)
theorem rm_enc2 (l : Launch) (Z : State) (a0 : Array Value) (hw : HW Z a0) (ws : List Jvm.Cond) (q0 : Addr) (q1 : Addr) (q2 : Addr) (t1 : Addr) (k1 : ClassId) (xs0 : Int32) (xs1 : Int32) (h0 : Heap) (n0 : Nat) (Z0 : n0 ≤ h0.size) (O0 : Old Z n0 h0) (E1 : Exa Z h0 t1 "[B") (V1 : Arv Z h0 t1 k1 .byte (2 : Int32) [(.int xs0), (.int xs1)] (.int 0)) (HC : OwnC Z q0 q1 q2) (hg0 : ¬ xs0 < 0) (hg1 : ¬ xs1 < 0) :
  OwnM l Z h0 (⟨kS1, "encode", "(Ljava/nio/charset/Charset;B[B)[B"⟩ : MethodName) (Jvm.Cond.code (⟨kS1, "encode", "(Ljava/nio/charset/Charset;B[B)[B"⟩ : MethodName) jdk_42_method_18_code 3 (some (.array .byte)) :: ws) (RM 2 1 2 34) #[(.ref q0), (.int 0), (.ref t1)] (Qrm_enc2 Z q0 q1 q2 t1 k1 xs0 xs1 h0 n0) := by
 refine MetFree.of_bodySF (plainFor_of_name pn_0) hisR ?_
 intro p e s m args below meth c s₁ Bd hml0 hP hK
 obtain ⟨rfl, hZ, hh⟩ := hP
 have hx := Bd.exec
 have hby := Bd.bytes
 have hml : c.maxLocals = 3 := hml0
 have hown : s.vm.findClass kS1 = some m.cls := findClass_of_methodNamed Bd.named
 have hnm := (name_of_methodNamed Bd.named Bd.method).1
 have X0 : Stand p l e (RM 2 1 2 34) s m #[(.ref q0), (.int 0), (.ref t1)] below meth c s₁ [] 0 0 := Stand.of_body Bd
 have e0 : s₁.heap = h0 := by rw [← hh, Bd.state]; rfl
 have N0 := Fr.nil n0
 have pre0 : ∀ t, GO p e below s₁ (mkF m 0 (la7 q0 (0 : Int32) t1) []) t → GO p e below s₁ (entryFrame m #[(.ref q0), (.int 0), (.ref t1)] 3) t := fun t k => castTop (ef_rm_enc2 m q0 ((0 : Int32)) t1) k
 have lt_E1 := ltA E1.lt
 have lt_V1 := ltA V1.lt
 obtain ⟨SZq0, SZqa, SZq1, SZq2, nq1, nq2⟩ := HC
 have S226 : Sta Z h0 "sun/nio/cs/UTF_8" "INSTANCE" "Lsun/nio/cs/UTF_8;" (.ref q1) := SZq1.ext O0.2
 obtain ⟨T227, X227, e227, st227⟩ := getS2 X0 hx hZ hown (host := "") (Or.inl (wd hw 148 rfl)) Via.refl e0 S226 (g := (mkF m 1 (la7 q0 (0 : Int32) t1) [(.ref q0)])) rfl (hb hby d27_1)
 have S228 : Sta Z h0 "sun/nio/cs/ISO_8859_1" "INSTANCE" "Lsun/nio/cs/ISO_8859_1;" (.ref q2) := SZq2.ext O0.2
 obtain ⟨T229, X229, e229, st229⟩ := getS2 X227 hx hZ hown (host := "") (Or.inl (wd hw 150 rfl)) Via.refl e227 S228 (g := (mkF m 15 (la7 q0 (0 : Int32) t1) [(.ref q0)])) rfl (hb hby d27_15)
 have S230 : Sta Z h0 "sun/nio/cs/US_ASCII" "INSTANCE" "Lsun/nio/cs/US_ASCII;" (.ref q0) := SZqa.ext O0.2
 obtain ⟨T231, X231, e231, st231⟩ := getS2 X229 hx hZ hown (host := "") (Or.inl (wd hw 152 rfl)) Via.refl e229 S230 (g := (mkF m 28 (la7 q0 (0 : Int32) t1) [(.ref q0)])) rfl (hb hby d27_28)
 -- pc 36: String.encodeASCII by rm_ea2
 obtain ⟨_, _, ⟨T232, L232, k232, n232⟩, -, X232, ⟨Lc232, hQ232, l232, y232, z232⟩, st232⟩ := Jvm.LawKit.callS X231 hx (y := (⟨kS1, "encodeASCII", "(B[B)[B"⟩ : MethodName)) hown (mvT hZ (wd hw 154 rfl)) (mvT hZ (wd hw 155 rfl)) (mvT hZ (wd hw 3 rfl)) (mvT hZ (wd hw 156 rfl)) (by decide) (backOf (W := 0) (rm_ea2 l Z a0 hw [] t1 k1 xs0 xs1 h0 n0 (by omega) E1 V1 (by first | assumption | decide | omega) (by first | assumption | decide | omega)) hZ (wd hw 156 rfl) (wd hw 3 rfl) (by decide) (by decide)) (g := (mkF m 36 (la7 q0 (0 : Int32) t1) [(.ref t1), (.int 0)])) rfl (by rw [hml]; rfl) (argsL := [(.int 0), (.ref t1)]) (rest := []) (lenOf pd_2 rfl) rfl (wz rfl) (hb hby d27_36) (fun _ _ => ⟨rfl, e231, (by decide : 0 + 1 ≤ _), (by decide : 0 + 2 ≤ _)⟩)
 dsimp only [Pt.U, Pt.locs, Pt.cells, Pt.slots] at X232 l232 y232 z232 st232 hQ232
 subst l232 y232 z232
 obtain ⟨h232, e232⟩ : ∃ z, T232.heap = z := ⟨_, rfl⟩
 rw [e232] at hQ232
 obtain ⟨t_232, k_232, rfl, N232q, K232, p232_0⟩ := hQ232
 have N232 := Fr.app N0 N232q
 have sz232 : h0.size ≤ h232.size := K232.1
 have lt232_0 := ltA p232_0.lt
 obtain ⟨fs, hr, hrun, hended, hW, hsame⟩ := X232.leave (v := some (.ref t_232)) (fun h => by rw [Bd.returns] at h; cases h)
 refine ⟨_, _, pre0 _ ?_, hrun, hended, _, _, rfl, ?_, ⟨_, rfl⟩, hW, hsame.mono (by decide) (by decide)⟩
 ·show GO p e below s₁ (mkF m 0 (la7 q0 (0 : Int32) t1) []) _
  refine XS.aloadN X0.here hx rfl (hb hby d27_0) rfl rfl ?_
  show GO p e below s₁ (mkF m 1 (la7 q0 (0 : Int32) t1) [(.ref q0)]) _
  refine st227 _ ?_
  show GO p e below T227 (mkF m 4 (la7 q0 (0 : Int32) t1) [(.ref q1), (.ref q0)]) _
  refine Jvm.RoadKit.acmp (g := (mkF m 4 (la7 q0 (0 : Int32) t1) [(.ref q1), (.ref q0)])) X227 hx rfl rfl rfl (pc0 := 4) (pc' := 14) (same := false) rfl (hb hby d27_4) rfl (decide_eq_false fun q => absurd (Value.ref.inj q) nq1) (by decide) (by decide) ?_
  show GO p e below T227 (mkF m 14 (la7 q0 (0 : Int32) t1) []) _
  refine XS.aloadN X227.here hx rfl (hb hby d27_14) rfl rfl ?_
  show GO p e below T227 (mkF m 15 (la7 q0 (0 : Int32) t1) [(.ref q0)]) _
  refine st229 _ ?_
  show GO p e below T229 (mkF m 18 (la7 q0 (0 : Int32) t1) [(.ref q2), (.ref q0)]) _
  refine Jvm.RoadKit.acmp (g := (mkF m 18 (la7 q0 (0 : Int32) t1) [(.ref q2), (.ref q0)])) X229 hx rfl rfl rfl (pc0 := 18) (pc' := 27) (same := false) rfl (hb hby d27_18) rfl (decide_eq_false fun q => absurd (Value.ref.inj q) nq2) (by decide) (by decide) ?_
  show GO p e below T229 (mkF m 27 (la7 q0 (0 : Int32) t1) []) _
  refine XS.aloadN X229.here hx rfl (hb hby d27_27) rfl rfl ?_
  show GO p e below T229 (mkF m 28 (la7 q0 (0 : Int32) t1) [(.ref q0)]) _
  refine st231 _ ?_
  show GO p e below T231 (mkF m 31 (la7 q0 (0 : Int32) t1) [(.ref q0), (.ref q0)]) _
  refine Jvm.RoadKit.acmp (g := (mkF m 31 (la7 q0 (0 : Int32) t1) [(.ref q0), (.ref q0)])) X231 hx rfl rfl rfl (pc0 := 31) (pc' := 34) (same := true) rfl (hb hby d27_31) rfl (decide_eq_true rfl) (by decide) (by decide) ?_
  show GO p e below T231 (mkF m 34 (la7 q0 (0 : Int32) t1) []) _
  refine XS.iloadN X231.here hx rfl (hb hby d27_34) rfl ?_
  show GO p e below T231 (mkF m 35 (la7 q0 (0 : Int32) t1) [(.int 0)]) _
  refine XS.aloadN X231.here hx rfl (hb hby d27_35) rfl rfl ?_
  show GO p e below T231 (mkF m 36 (la7 q0 (0 : Int32) t1) [(.ref t1), (.int 0)]) _
  refine st232 _ ?_
  show GO p e below T232 (mkF m 39 (la7 q0 (0 : Int32) t1) [(.ref t_232)]) _
  exact retOut X232 hx Bd.returns rfl (Or.inr (Or.inr (Or.inr (Or.inr ⟨rfl, rfl, rfl⟩)))) (hb hby d27_39) hr
 ·show Qrm_enc2 Z q0 q1 q2 t1 k1 xs0 xs1 h0 n0 _ T232.heap _
  rw [e232]
  exact ⟨t_232, k_232, rfl, N232, ((Keep.refl h0 []).trans K232 all0), p232_0⟩
def Qrm_gbc2 (Z : State) (q0 : Addr) (q1 : Addr) (q2 : Addr) (x1 : Addr) (t1 : Addr) (k1 : ClassId) (xs0 : Int32) (xs1 : Int32) (z0 : Int32) (h0 : Heap) (n0 : Nat) (v : Option Value) (h : Heap) (L : List Loc) : Prop := ∃ t : Addr, ∃ k : ClassId, v = some (.ref t) ∧ Fr n0 L ∧ Keep h0 h [] ∧ Arv Z h t k .byte (2 : Int32) [(.int xs0), (.int xs1)] (.int 0)
theorem ef_rm_gbc2 (m : MethodId) (x0 : Addr) (x1 : Addr) : entryFrame m #[(.ref x0), (.ref x1)] 2 = mkF m 0 #[.val (.ref x0), .val (.ref x1)] [] := by first | rfl | (simp [entryFrame, mkF, argsToLocals, Value.category]; done)
theorem rm_gbc2 (l : Launch) (Z : State) (a0 : Array Value) (hw : HW Z a0) (ws : List Jvm.Cond) (q0 : Addr) (q1 : Addr) (q2 : Addr) (x1 : Addr) (t1 : Addr) (k1 : ClassId) (xs0 : Int32) (xs1 : Int32) (z0 : Int32) (h0 : Heap) (n0 : Nat) (Z0 : n0 ≤ h0.size) (O0 : Old Z n0 h0) (Esx1 : Exa Z h0 x1 kS1) (Fcx1 : Fld Z h0 x1 kS1 "coder" "B" (.int 0)) (Fvx1 : Fld Z h0 x1 kS1 "value" "[B" (.ref t1)) (Vsx1 : Arv Z h0 t1 k1 .byte (2 : Int32) [(.int xs0), (.int xs1)] (.int 0)) (E1 : Exa Z h0 t1 "[B") (SZc : Sta Z Z.heap kS1 "COMPACT_STRINGS" "Z" (.int z0)) (hz0 : ¬ z0 = 0) (HC : OwnC Z q0 q1 q2) (hg0 : ¬ xs0 < 0) (hg1 : ¬ xs1 < 0) :
  OwnM l Z h0 (⟨kS1, "getBytes", "(Ljava/nio/charset/Charset;)[B"⟩ : MethodName) (Jvm.Cond.code (⟨kS1, "getBytes", "(Ljava/nio/charset/Charset;)[B"⟩ : MethodName) jdk_42_method_64_code 2 (some (.array .byte)) :: ws) (RM 3 1 2 48) #[(.ref x1), (.ref q0)] (Qrm_gbc2 Z q0 q1 q2 x1 t1 k1 xs0 xs1 z0 h0 n0) := by
 refine MetFree.of_bodySF (plainFor_of_name pn_0) hisR ?_
 intro p e s m args below meth c s₁ Bd hml0 hP hK
 obtain ⟨rfl, hZ, hh⟩ := hP
 have hx := Bd.exec
 have hby := Bd.bytes
 have hml : c.maxLocals = 2 := hml0
 have hown : s.vm.findClass kS1 = some m.cls := findClass_of_methodNamed Bd.named
 have hnm := (name_of_methodNamed Bd.named Bd.method).1
 have X0 : Stand p l e (RM 3 1 2 48) s m #[(.ref x1), (.ref q0)] below meth c s₁ [] 0 0 := Stand.of_body Bd
 have e0 : s₁.heap = h0 := by rw [← hh, Bd.state]; rfl
 have N0 := Fr.nil n0
 have pre0 : ∀ t, GO p e below s₁ (mkF m 0 #[.val (.ref x1), .val (.ref q0)] []) t → GO p e below s₁ (entryFrame m #[(.ref x1), (.ref q0)] 2) t := fun t k => castTop (ef_rm_gbc2 m x1 q0) k
 have lt_Esx1 := ltA Esx1.lt
 have lt_Fcx1 := ltA Fcx1.lt
 have lt_Fvx1 := ltA Fvx1.lt
 have lt_Vsx1 := ltA Vsx1.lt
 have lt_E1 := ltA E1.lt
 -- pc 14: String.coder by rm_sc
 obtain ⟨cq233, kq233, q233a, q233b, q233c⟩ := isOf hZ e0 Esx1
 obtain ⟨_, _, ⟨T233, L233, k233, n233⟩, -, X233, ⟨Lc233, hQ233, l233, y233, z233⟩, st233⟩ := X0.virtualBack hx (y := (⟨kS1, "coder", "()B"⟩ : MethodName)) (z := (⟨kS1, "coder", "()B"⟩ : MethodName)) hown (mvT hZ (wd hw 59 rfl)) (mvT hZ (wd hw 60 rfl)) (notFace_of_selects (args := #[]) (mvT hZ (wd hw 62 rfl))) (mvT hZ (wd hw 62 rfl)) (mvT hZ (wd hw 61 rfl)) (by decide) (backOf (W := 1) (rm_sc l Z a0 hw [] x1 z0 h0 n0 (by omega) O0 Fcx1 (by first | assumption | decide | omega) (by first | assumption | decide | omega)) hZ (wd hw 63 rfl) (wd hw 3 rfl) (by decide) (by decide)) q233a q233c (g := (mkF m 14 #[.val (.ref x1), .val (.ref q0)] [(.ref x1), (.ref q0)])) rfl (by rw [hml]; rfl) (Steps.refl _) (argsL := []) (rest := [(.ref q0)]) (lenOf pd_3 rfl) rfl (wz rfl) (hb hby d26_14) (fun _ _ => ⟨rfl, e0, (by decide : 0 + 0 ≤ _), (by decide : 0 + 0 ≤ _)⟩)
 dsimp only [Pt.U, Pt.locs, Pt.cells, Pt.slots] at X233 l233 y233 z233 st233 hQ233
 subst l233 y233 z233
 obtain ⟨rfl, N233q, e233⟩ := hQ233
 have N233 := Fr.app N0 N233q
 obtain ⟨T234, X234, e234, st234⟩ := getF X233 hx hZ hown (host := "") (Or.inl (wd hw 20 rfl)) Via.refl e233 Fvx1 (g := (mkF m 18 #[.val (.ref x1), .val (.ref q0)] [(.ref x1), (.int 0), (.ref q0)])) rfl rfl (hb hby d26_18)
 -- pc 21: String.encode by rm_enc2
 obtain ⟨_, _, ⟨T235, L235, k235, n235⟩, -, X235, ⟨Lc235, hQ235, l235, y235, z235⟩, st235⟩ := Jvm.LawKit.callS X234 hx (y := (⟨kS1, "encode", "(Ljava/nio/charset/Charset;B[B)[B"⟩ : MethodName)) hown (mvT hZ (wd hw 145 rfl)) (mvT hZ (wd hw 146 rfl)) (mvT hZ (wd hw 3 rfl)) (mvT hZ (wd hw 147 rfl)) (by decide) (backOf (W := 0) (rm_enc2 l Z a0 hw [] q0 q1 q2 t1 k1 xs0 xs1 h0 n0 (by omega) O0 E1 Vsx1 (by first | assumption | decide | omega) (by first | assumption | decide | omega) (by first | assumption | decide | omega)) hZ (wd hw 147 rfl) (wd hw 3 rfl) (by decide) (by decide)) (g := (mkF m 21 #[.val (.ref x1), .val (.ref q0)] [(.ref t1), (.int 0), (.ref q0)])) rfl (by rw [hml]; rfl) (argsL := [(.ref q0), (.int 0), (.ref t1)]) (rest := []) (lenOf pd_4 rfl) rfl (wz rfl) (hb hby d26_21) (fun _ _ => ⟨rfl, e234, (by decide : 0 + 1 ≤ _), (by decide : 0 + 2 ≤ _)⟩)
 dsimp only [Pt.U, Pt.locs, Pt.cells, Pt.slots] at X235 l235 y235 z235 st235 hQ235
 subst l235 y235 z235
 obtain ⟨h235, e235⟩ : ∃ z, T235.heap = z := ⟨_, rfl⟩
 rw [e235] at hQ235
 obtain ⟨t_235, k_235, rfl, N235q, K235, p235_0⟩ := hQ235
 have N235 := Fr.app N233 N235q
 have sz235 : h0.size ≤ h235.size := K235.1
 have lt235_0 := ltA p235_0.lt
 obtain ⟨fs, hr, hrun, hended, hW, hsame⟩ := X235.leave (v := some (.ref t_235)) (fun h => by rw [Bd.returns] at h; cases h)
 refine ⟨_, _, pre0 _ ?_, hrun, hended, _, _, rfl, ?_, ⟨_, rfl⟩, hW, hsame.mono (by decide) (by decide)⟩
 ·show GO p e below s₁ (mkF m 0 #[.val (.ref x1), .val (.ref q0)] []) _
  refine XS.aloadN X0.here hx rfl (hb hby d26_0) rfl rfl ?_
  show GO p e below s₁ (mkF m 1 #[.val (.ref x1), .val (.ref q0)] [(.ref q0)]) _
  refine XS.ifnonnullYes X0.here hx rfl (pc0 := 1) (pc' := 12) rfl (hb hby d26_1) rfl (by decide) (by decide) ?_
  show GO p e below s₁ (mkF m 12 #[.val (.ref x1), .val (.ref q0)] []) _
  refine XS.aloadN X0.here hx rfl (hb hby d26_12) rfl rfl ?_
  show GO p e below s₁ (mkF m 13 #[.val (.ref x1), .val (.ref q0)] [(.ref q0)]) _
  refine XS.aloadN X0.here hx rfl (hb hby d26_13) rfl rfl ?_
  show GO p e below s₁ (mkF m 14 #[.val (.ref x1), .val (.ref q0)] [(.ref x1), (.ref q0)]) _
  refine st233.trans ?_
  show GO p e below T233 (mkF m 17 #[.val (.ref x1), .val (.ref q0)] [(.int 0), (.ref q0)]) _
  refine XS.aloadN X233.here hx rfl (hb hby d26_17) rfl rfl ?_
  show GO p e below T233 (mkF m 18 #[.val (.ref x1), .val (.ref q0)] [(.ref x1), (.int 0), (.ref q0)]) _
  refine st234 _ ?_
  show GO p e below T234 (mkF m 21 #[.val (.ref x1), .val (.ref q0)] [(.ref t1), (.int 0), (.ref q0)]) _
  refine st235 _ ?_
  show GO p e below T235 (mkF m 24 #[.val (.ref x1), .val (.ref q0)] [(.ref t_235)]) _
  exact retOut X235 hx Bd.returns rfl (Or.inr (Or.inr (Or.inr (Or.inr ⟨rfl, rfl, rfl⟩)))) (hb hby d26_24) hr
 ·show Qrm_gbc2 Z q0 q1 q2 x1 t1 k1 xs0 xs1 z0 h0 n0 _ T235.heap _
  rw [e235]
  exact ⟨t_235, k_235, rfl, N235, ((Keep.refl h0 []).trans K235 all0), p235_0⟩
def Qrm_gb_1_1_16 (Z : State) (x1 : Addr) (t1 : Addr) (k1 : ClassId) (xs0 : Int32) (d1 : Addr) (kd : ClassId) (xe0 : Int32) (z0 : Int32) (h0 : Heap) (n0 : Nat) (v : Option Value) (h : Heap) (L : List Loc) : Prop := v = none ∧ Fr n0 L ∧ Keep h0 h [d1] ∧ Arv Z h d1 kd .byte (16 : Int32) [(.int xe0), (.int xs0), (.int 0), (.int 0), (.int 0), (.int 0), (.int 0), (.int 0), (.int 0), (.int 0), (.int 0), (.int 0), (.int 0), (.int 0), (.int 0), (.int 0)] (.int 0)
theorem ef_rm_gb_1_1_16 (m : MethodId) (x0 : Addr) (x1 : Addr) (x2 : Int32) (x3 : Int32) : entryFrame m #[(.ref x0), (.ref x1), (.int x2), (.int x3)] 4 = mkF m 0 (la10 x0 x1 x2 x3) [] := by first | rfl | (simp [entryFrame, mkF, argsToLocals, Value.category]; done)
theorem rm_gb_1_1_16 (l : Launch) (Z : State) (a0 : Array Value) (hw : HW Z a0) (ws : List Jvm.Cond) (x1 : Addr) (t1 : Addr) (k1 : ClassId) (xs0 : Int32) (d1 : Addr) (kd : ClassId) (xe0 : Int32) (z0 : Int32) (h0 : Heap) (n0 : Nat) (Z0 : n0 ≤ h0.size) (O0 : Old Z n0 h0) (Esx1 : Exa Z h0 x1 kS1) (Fcx1 : Fld Z h0 x1 kS1 "coder" "B" (.int 0)) (Fvx1 : Fld Z h0 x1 kS1 "value" "[B" (.ref t1)) (Vsx1 : Arv Z h0 t1 k1 .byte (1 : Int32) [(.int xs0)] (.int 0)) (Vd : Arv Z h0 d1 kd .byte (16 : Int32) [(.int xe0), (.int 0), (.int 0), (.int 0), (.int 0), (.int 0), (.int 0), (.int 0), (.int 0), (.int 0), (.int 0), (.int 0), (.int 0), (.int 0), (.int 0), (.int 0)] (.int 0)) (SZc : Sta Z Z.heap kS1 "COMPACT_STRINGS" "Z" (.int z0)) (hz0 : ¬ z0 = 0) (gd : n0 ≤ d1) (ned : t1 ≠ d1) :
  OwnM l Z h0 (⟨kS1, "getBytes", "([BIB)V"⟩ : MethodName) (Jvm.Cond.code (⟨kS1, "getBytes", "([BIB)V"⟩ : MethodName) jdk_42_method_147_code 4 none :: ws) (RM 1 0 0 18) #[(.ref x1), (.ref d1), (.int 1), (.int 0)] (Qrm_gb_1_1_16 Z x1 t1 k1 xs0 d1 kd xe0 z0 h0 n0) := by
 refine MetFree.of_bodySF (plainFor_of_name pn_0) hisR ?_
 intro p e s m args below meth c s₁ Bd hml0 hP hK
 obtain ⟨rfl, hZ, hh⟩ := hP
 have hx := Bd.exec
 have hby := Bd.bytes
 have hml : c.maxLocals = 4 := hml0
 have hown : s.vm.findClass kS1 = some m.cls := findClass_of_methodNamed Bd.named
 have hnm := (name_of_methodNamed Bd.named Bd.method).1
 have X0 : Stand p l e (RM 1 0 0 18) s m #[(.ref x1), (.ref d1), (.int 1), (.int 0)] below meth c s₁ [] 0 0 := Stand.of_body Bd
 have e0 : s₁.heap = h0 := by rw [← hh, Bd.state]; rfl
 have N0 := Fr.nil n0
 have pre0 : ∀ t, GO p e below s₁ (mkF m 0 (la10 x1 d1 (1 : Int32) (0 : Int32)) []) t → GO p e below s₁ (entryFrame m #[(.ref x1), (.ref d1), (.int 1), (.int 0)] 4) t := fun t k => castTop (ef_rm_gb_1_1_16 m x1 d1 ((1 : Int32)) ((0 : Int32))) k
 have lt_Esx1 := ltA Esx1.lt
 have lt_Fcx1 := ltA Fcx1.lt
 have lt_Fvx1 := ltA Fvx1.lt
 have lt_Vsx1 := ltA Vsx1.lt
 have lt_Vd := ltA Vd.lt
 -- pc 1: String.coder by rm_sc
 obtain ⟨cq236, kq236, q236a, q236b, q236c⟩ := isOf hZ e0 Esx1
 obtain ⟨_, _, ⟨T236, L236, k236, n236⟩, -, X236, ⟨Lc236, hQ236, l236, y236, z236⟩, st236⟩ := X0.virtualBack hx (y := (⟨kS1, "coder", "()B"⟩ : MethodName)) (z := (⟨kS1, "coder", "()B"⟩ : MethodName)) hown (mvT hZ (wd hw 59 rfl)) (mvT hZ (wd hw 60 rfl)) (notFace_of_selects (args := #[]) (mvT hZ (wd hw 62 rfl))) (mvT hZ (wd hw 62 rfl)) (mvT hZ (wd hw 61 rfl)) (by decide) (backOf (W := 0) (rm_sc l Z a0 hw [] x1 z0 h0 n0 (by omega) O0 Fcx1 (by first | assumption | decide | omega) (by first | assumption | decide | omega)) hZ (wd hw 63 rfl) (wd hw 3 rfl) (by decide) (by decide)) q236a q236c (g := (mkF m 1 (la10 x1 d1 (1 : Int32) (0 : Int32)) [(.ref x1)])) rfl (by rw [hml]; rfl) (Steps.refl _) (argsL := []) (rest := []) (lenOf pd_3 rfl) rfl (wz rfl) (hb hby d14_1) (fun _ _ => ⟨rfl, e0, (by decide : 0 + 0 ≤ _), (by decide : 0 + 0 ≤ _)⟩)
 dsimp only [Pt.U, Pt.locs, Pt.cells, Pt.slots] at X236 l236 y236 z236 st236 hQ236
 subst l236 y236 z236
 obtain ⟨rfl, N236q, e236⟩ := hQ236
 have N236 := Fr.app N0 N236q
 obtain ⟨T237, X237, e237, st237⟩ := getF X236 hx hZ hown (host := "") (Or.inl (wd hw 20 rfl)) Via.refl e236 Fvx1 (g := (mkF m 9 (la10 x1 d1 (1 : Int32) (0 : Int32)) [(.ref x1)])) rfl rfl (hb hby d14_9)
 obtain ⟨T238, X238, e238, st238⟩ := getF X237 hx hZ hown (host := "") (Or.inl (wd hw 20 rfl)) Via.refl e237 Fvx1 (g := (mkF m 18 (la10 x1 d1 (1 : Int32) (0 : Int32)) [(.ref x1), (.int 1), (.ref d1), (.int 0), (.ref t1)])) rfl rfl (hb hby d14_18)
 obtain ⟨cl239, Ar239, -, S239, M239, -, -⟩ := id Vsx1
 obtain ⟨T240, h240, L240, X240, e240, N240, K240, A240, st240⟩ := cpA X238 hx hZ hown (wd hw 88 rfl) (wd hw 91 rfl) (wd hw 89 rfl) (wd hw 90 rfl) e238 Vsx1 Vd (us := [(.int xs0)]) (Or.inl ⟨rfl, rfl⟩) (by decide) (by decide) (by decide) (by decide) (by decide) rfl (Nat.le_of_ble_eq_true rfl) N236 (by omega) (g := (mkF m 22 (la10 x1 d1 (1 : Int32) (0 : Int32)) [(.int 1), (.int 1), (.ref d1), (.int 0), (.ref t1)])) rfl (by rw [hml]; rfl) rfl (hb hby d14_22) (by decide) (W := 0) (wz rfl) (by decide)
 have sz240 : h0.size ≤ h240.size := K240.1
 have V240 : Arv Z h240 d1 kd .byte (16 : Int32) [(.int xe0), (.int xs0), (.int 0), (.int 0), (.int 0), (.int 0), (.int 0), (.int 0), (.int 0), (.int 0), (.int 0), (.int 0), (.int 0), (.int 0), (.int 0), (.int 0)] (.int 0) := A240
 obtain ⟨fs, hr, hrun, hended, hW, hsame⟩ := X240.leave (v := none) (fun _ => rfl)
 refine ⟨_, _, pre0 _ ?_, hrun, hended, _, _, rfl, ?_, ⟨_, rfl⟩, hW, hsame.mono (by decide) (by decide)⟩
 ·show GO p e below s₁ (mkF m 0 (la10 x1 d1 (1 : Int32) (0 : Int32)) []) _
  refine XS.aloadN X0.here hx rfl (hb hby d14_0) rfl rfl ?_
  show GO p e below s₁ (mkF m 1 (la10 x1 d1 (1 : Int32) (0 : Int32)) [(.ref x1)]) _
  refine st236.trans ?_
  show GO p e below T236 (mkF m 4 (la10 x1 d1 (1 : Int32) (0 : Int32)) [(.int 0)]) _
  refine XS.iloadN X236.here hx rfl (hb hby d14_4) rfl ?_
  show GO p e below T236 (mkF m 5 (la10 x1 d1 (1 : Int32) (0 : Int32)) [(.int 0), (.int 0)]) _
  refine XS.icmpNo X236.here hx rfl (hb hby d14_5) rfl (teq (rfl : (0 : Int32) = (0 : Int32))).2 ?_
  show GO p e below T236 (mkF m 8 (la10 x1 d1 (1 : Int32) (0 : Int32)) []) _
  refine XS.aloadN X236.here hx rfl (hb hby d14_8) rfl rfl ?_
  show GO p e below T236 (mkF m 9 (la10 x1 d1 (1 : Int32) (0 : Int32)) [(.ref x1)]) _
  refine st237 _ ?_
  show GO p e below T237 (mkF m 12 (la10 x1 d1 (1 : Int32) (0 : Int32)) [(.ref t1)]) _
  refine XS.iconst X237.here hx rfl (hb hby d14_12) ?_
  show GO p e below T237 (mkF m 13 (la10 x1 d1 (1 : Int32) (0 : Int32)) [(.int 0), (.ref t1)]) _
  refine XS.aloadN X237.here hx rfl (hb hby d14_13) rfl rfl ?_
  show GO p e below T237 (mkF m 14 (la10 x1 d1 (1 : Int32) (0 : Int32)) [(.ref d1), (.int 0), (.ref t1)]) _
  refine XS.iloadN X237.here hx rfl (hb hby d14_14) rfl ?_
  show GO p e below T237 (mkF m 15 (la10 x1 d1 (1 : Int32) (0 : Int32)) [(.int 1), (.ref d1), (.int 0), (.ref t1)]) _
  refine XS.iloadN X237.here hx rfl (hb hby d14_15) rfl ?_
  show GO p e below T237 (mkF m 16 (la10 x1 d1 (1 : Int32) (0 : Int32)) [(.int 0), (.int 1), (.ref d1), (.int 0), (.ref t1)]) _
  refine XS.ishl X237.here hx rfl (hb hby d14_16) rfl ?_
  rw [show ((1 : Int32) <<< ((0 : Int32) &&& 31)) = (1 : Int32) from by decide]
  show GO p e below T237 (mkF m 17 (la10 x1 d1 (1 : Int32) (0 : Int32)) [(.int 1), (.ref d1), (.int 0), (.ref t1)]) _
  refine XS.aloadN X237.here hx rfl (hb hby d14_17) rfl rfl ?_
  show GO p e below T237 (mkF m 18 (la10 x1 d1 (1 : Int32) (0 : Int32)) [(.ref x1), (.int 1), (.ref d1), (.int 0), (.ref t1)]) _
  refine st238 _ ?_
  show GO p e below T238 (mkF m 21 (la10 x1 d1 (1 : Int32) (0 : Int32)) [(.ref t1), (.int 1), (.ref d1), (.int 0), (.ref t1)]) _
  refine X238.arraylength hx (by rw [e238]; exact Ar239.1) (State.isArrayOf_alike hZ.alike Ar239.2.1) (g := (mkF m 21 (la10 x1 d1 (1 : Int32) (0 : Int32)) [(.ref t1), (.int 1), (.ref d1), (.int 0), (.ref t1)])) rfl rfl (hb hby d14_21) _ ?_
  rw [len_of S239 M239]
  show GO p e below T238 (mkF m 22 (la10 x1 d1 (1 : Int32) (0 : Int32)) [(.int 1), (.int 1), (.ref d1), (.int 0), (.ref t1)]) _
  refine st240 _ ?_
  show GO p e below T240 (mkF m 25 (la10 x1 d1 (1 : Int32) (0 : Int32)) []) _
  refine XS.goto X240.here hx rfl (pc0 := 25) (pc' := 43) rfl (hb hby d14_25) (by decide) (by decide) ?_
  show GO p e below T240 (mkF m 43 (la10 x1 d1 (1 : Int32) (0 : Int32)) []) _
  exact X240.returnOut hx Bd.returns (hb hby d14_43) hr
 ·show Qrm_gb_1_1_16 Z x1 t1 k1 xs0 d1 kd xe0 z0 h0 n0 _ T240.heap _
  rw [e240]
  exact ⟨rfl, N240, ((Keep.refl h0 [d1]).trans K240 (allS (P := fun x => x ∈ _ ∨ _) (Or.inl (List.mem_of_getElem? (i := 0) rfl)) all0)), V240⟩
def Qrm_ps_1_1_16 (Z : State) (x1 : Addr) (t1 : Addr) (k1 : ClassId) (xs0 : Int32) (a1 : Addr) (d1 : Addr) (kd : ClassId) (xe0 : Int32) (z0 : Int32) (h0 : Heap) (n0 : Nat) (v : Option Value) (h : Heap) (L : List Loc) : Prop := v = none ∧ Fr n0 L ∧ Keep h0 h [d1] ∧ Arv Z h d1 kd .byte (16 : Int32) [(.int xe0), (.int xs0), (.int 0), (.int 0), (.int 0), (.int 0), (.int 0), (.int 0), (.int 0), (.int 0), (.int 0), (.int 0), (.int 0), (.int 0), (.int 0), (.int 0)] (.int 0)
theorem ef_rm_ps_1_1_16 (m : MethodId) (x0 : Addr) (x1 : Int32) (x2 : Addr) : entryFrame m #[(.ref x0), (.int x1), (.ref x2)] 3 = mkF m 0 (la7 x0 x1 x2) [] := by first | rfl | (simp [entryFrame, mkF, argsToLocals, Value.category]; done)
theorem rm_ps_1_1_16 (l : Launch) (Z : State) (a0 : Array Value) (hw : HW Z a0) (ws : List Jvm.Cond) (x1 : Addr) (t1 : Addr) (k1 : ClassId) (xs0 : Int32) (a1 : Addr) (d1 : Addr) (kd : ClassId) (xe0 : Int32) (z0 : Int32) (h0 : Heap) (n0 : Nat) (Z0 : n0 ≤ h0.size) (O0 : Old Z n0 h0) (Esx1 : Exa Z h0 x1 kS1) (Fcx1 : Fld Z h0 x1 kS1 "coder" "B" (.int 0)) (Fvx1 : Fld Z h0 x1 kS1 "value" "[B" (.ref t1)) (Vsx1 : Arv Z h0 t1 k1 .byte (1 : Int32) [(.int xs0)] (.int 0)) (Eb : Exa Z h0 a1 kS2) (Fbv : Fld Z h0 a1 kS0 "value" "[B" (.ref d1)) (Fbc : Fld Z h0 a1 kS0 "coder" "B" (.int 0)) (Fbn : Fld Z h0 a1 kS0 "count" "I" (.int 1)) (Vb : Arv Z h0 d1 kd .byte (16 : Int32) [(.int xe0), (.int 0), (.int 0), (.int 0), (.int 0), (.int 0), (.int 0), (.int 0), (.int 0), (.int 0), (.int 0), (.int 0), (.int 0), (.int 0), (.int 0), (.int 0)] (.int 0)) (SZc : Sta Z Z.heap kS1 "COMPACT_STRINGS" "Z" (.int z0)) (hz0 : ¬ z0 = 0) (gd : n0 ≤ d1) (ned : t1 ≠ d1) :
  OwnM l Z h0 (⟨kS0, "putStringAt", "(ILjava/lang/String;)V"⟩ : MethodName) (Jvm.Cond.code (⟨kS0, "putStringAt", "(ILjava/lang/String;)V"⟩ : MethodName) jdk_68_method_73_code 3 none :: ws) (RM 2 0 0 33) #[(.ref a1), (.int 1), (.ref x1)] (Qrm_ps_1_1_16 Z x1 t1 k1 xs0 a1 d1 kd xe0 z0 h0 n0) := by
 refine MetFree.of_bodySF (plainFor_of_name pn_2) hisR ?_
 intro p e s m args below meth c s₁ Bd hml0 hP hK
 obtain ⟨rfl, hZ, hh⟩ := hP
 have hx := Bd.exec
 have hby := Bd.bytes
 have hml : c.maxLocals = 3 := hml0
 have hown : s.vm.findClass kS0 = some m.cls := findClass_of_methodNamed Bd.named
 have hnm := (name_of_methodNamed Bd.named Bd.method).1
 have X0 : Stand p l e (RM 2 0 0 33) s m #[(.ref a1), (.int 1), (.ref x1)] below meth c s₁ [] 0 0 := Stand.of_body Bd
 have e0 : s₁.heap = h0 := by rw [← hh, Bd.state]; rfl
 have N0 := Fr.nil n0
 have pre0 : ∀ t, GO p e below s₁ (mkF m 0 (la7 a1 (1 : Int32) x1) []) t → GO p e below s₁ (entryFrame m #[(.ref a1), (.int 1), (.ref x1)] 3) t := fun t k => castTop (ef_rm_ps_1_1_16 m a1 ((1 : Int32)) x1) k
 have lt_Esx1 := ltA Esx1.lt
 have lt_Fcx1 := ltA Fcx1.lt
 have lt_Fvx1 := ltA Fvx1.lt
 have lt_Vsx1 := ltA Vsx1.lt
 have lt_Eb := ltA Eb.lt
 have lt_Fbv := ltA Fbv.lt
 have lt_Fbc := ltA Fbc.lt
 have lt_Fbn := ltA Fbn.lt
 have lt_Vb := ltA Vb.lt
 -- pc 2: AbstractStringBuilder.inflateIfNeededFor by rm_inf
 obtain ⟨cq241, q241a, q241b⟩ := Eb.cell
 obtain ⟨_, _, ⟨T241, L241, k241, n241⟩, -, X241, ⟨Lc241, hQ241, l241, y241, z241⟩, st241⟩ := X0.privateBack hx (y := (⟨kS0, "inflateIfNeededFor", "(Ljava/lang/String;)V"⟩ : MethodName)) hown (mvT hZ (wd hw 77 rfl)) (mvT hZ (wd hw 78 rfl)) (mvT hZ (own_selfsel (wd hw 80 rfl) (wd hw 79 rfl) (wd hw 78 rfl) (by decide))) (Cond.privateMethod_at (mvP hZ (wd hw 79 rfl) (args := #[]))) (mvT hZ (wd hw 81 rfl)) (by decide) (backOf (W := 0) (rm_inf l Z a0 hw [] a1 x1 z0 h0 n0 (by omega) O0 Fbc Esx1 Fcx1 (by first | assumption | decide | omega) (by first | assumption | decide | omega)) hZ (wd hw 81 rfl) (wd hw 36 rfl) (by decide) (by decide)) (g := (mkF m 2 (la7 a1 (1 : Int32) x1) [(.ref x1), (.ref a1)])) rfl (by rw [hml]; rfl) (Steps.refl _) (a := a1) (by rw [e0]; exact q241a) q241b (argsL := [(.ref x1)]) (rest := []) (lenOf pd_6 rfl) rfl (wz rfl) (hb hby d12_2) (fun _ _ => ⟨rfl, e0, (by decide : 0 + 0 ≤ _), (by decide : 0 + 0 ≤ _)⟩)
 dsimp only [Pt.U, Pt.locs, Pt.cells, Pt.slots] at X241 l241 y241 z241 st241 hQ241
 subst l241 y241 z241
 obtain ⟨rfl, N241q, e241⟩ := hQ241
 have N241 := Fr.app N0 N241q
 obtain ⟨T242, X242, e242, st242⟩ := getF X241 hx hZ hown (host := "") (Or.inl (wd hw 40 rfl)) Via.refl e241 Fbv (g := (mkF m 7 (la7 a1 (1 : Int32) x1) [(.ref a1), (.ref x1)])) rfl rfl (hb hby d12_7)
 obtain ⟨T243, X243, e243, st243⟩ := getF X242 hx hZ hown (host := "") (Or.inl (wd hw 42 rfl)) Via.refl e242 Fbc (g := (mkF m 12 (la7 a1 (1 : Int32) x1) [(.ref a1), (.int 1), (.ref d1), (.ref x1)])) rfl rfl (hb hby d12_12)
 -- pc 15: String.getBytes by rm_gb_1_1_16
 obtain ⟨cq244, kq244, q244a, q244b, q244c⟩ := isOf hZ e243 Esx1
 obtain ⟨_, _, ⟨T244, L244, k244, n244⟩, -, X244, ⟨Lc244, hQ244, l244, y244, z244⟩, st244⟩ := X243.virtualBack hx (y := (⟨kS1, "getBytes", "([BIB)V"⟩ : MethodName)) (z := (⟨kS1, "getBytes", "([BIB)V"⟩ : MethodName)) hown (mvT hZ (wd hw 83 rfl)) (mvT hZ (wd hw 84 rfl)) (notFace_of_selects (args := #[]) (mvT hZ (wd hw 86 rfl))) (mvT hZ (wd hw 86 rfl)) (mvT hZ (wd hw 85 rfl)) (by decide) (backOf (W := 0) (rm_gb_1_1_16 l Z a0 hw [] x1 t1 k1 xs0 d1 kd xe0 z0 h0 n0 (by omega) O0 Esx1 Fcx1 Fvx1 Vsx1 Vb (by first | assumption | decide | omega) (by first | assumption | decide | omega) (by first | assumption | decide | omega) ned) hZ (wd hw 87 rfl) (wd hw 3 rfl) (by decide) (by decide)) q244a q244c (g := (mkF m 15 (la7 a1 (1 : Int32) x1) [(.int 0), (.int 1), (.ref d1), (.ref x1)])) rfl (by rw [hml]; rfl) (Steps.refl _) (argsL := [(.ref d1), (.int 1), (.int 0)]) (rest := []) (lenOf pd_7 rfl) rfl (wz rfl) (hb hby d12_15) (fun _ _ => ⟨rfl, e243, (by decide : 0 + 0 ≤ _), (by decide : 0 + 0 ≤ _)⟩)
 dsimp only [Pt.U, Pt.locs, Pt.cells, Pt.slots] at X244 l244 y244 z244 st244 hQ244
 subst l244 y244 z244
 obtain ⟨h244, e244⟩ : ∃ z, T244.heap = z := ⟨_, rfl⟩
 rw [e244] at hQ244
 obtain ⟨rfl, N244q, K244, p244_0⟩ := hQ244
 have N244 := Fr.app N241 N244q
 have sz244 : h0.size ≤ h244.size := K244.1
 have lt244_0 := ltA p244_0.lt
 obtain ⟨fs, hr, hrun, hended, hW, hsame⟩ := X244.leave (v := none) (fun _ => rfl)
 refine ⟨_, _, pre0 _ ?_, hrun, hended, _, _, rfl, ?_, ⟨_, rfl⟩, hW, hsame.mono (by decide) (by decide)⟩
 ·show GO p e below s₁ (mkF m 0 (la7 a1 (1 : Int32) x1) []) _
  refine XS.aloadN X0.here hx rfl (hb hby d12_0) rfl rfl ?_
  show GO p e below s₁ (mkF m 1 (la7 a1 (1 : Int32) x1) [(.ref a1)]) _
  refine XS.aloadN X0.here hx rfl (hb hby d12_1) rfl rfl ?_
  show GO p e below s₁ (mkF m 2 (la7 a1 (1 : Int32) x1) [(.ref x1), (.ref a1)]) _
  refine st241.trans ?_
  show GO p e below T241 (mkF m 5 (la7 a1 (1 : Int32) x1) []) _
  refine XS.aloadN X241.here hx rfl (hb hby d12_5) rfl rfl ?_
  show GO p e below T241 (mkF m 6 (la7 a1 (1 : Int32) x1) [(.ref x1)]) _
  refine XS.aloadN X241.here hx rfl (hb hby d12_6) rfl rfl ?_
  show GO p e below T241 (mkF m 7 (la7 a1 (1 : Int32) x1) [(.ref a1), (.ref x1)]) _
  refine st242 _ ?_
  show GO p e below T242 (mkF m 10 (la7 a1 (1 : Int32) x1) [(.ref d1), (.ref x1)]) _
  refine XS.iloadN X242.here hx rfl (hb hby d12_10) rfl ?_
  show GO p e below T242 (mkF m 11 (la7 a1 (1 : Int32) x1) [(.int 1), (.ref d1), (.ref x1)]) _
  refine XS.aloadN X242.here hx rfl (hb hby d12_11) rfl rfl ?_
  show GO p e below T242 (mkF m 12 (la7 a1 (1 : Int32) x1) [(.ref a1), (.int 1), (.ref d1), (.ref x1)]) _
  refine st243 _ ?_
  show GO p e below T243 (mkF m 15 (la7 a1 (1 : Int32) x1) [(.int 0), (.int 1), (.ref d1), (.ref x1)]) _
  refine st244.trans ?_
  show GO p e below T244 (mkF m 18 (la7 a1 (1 : Int32) x1) []) _
  exact X244.returnOut hx Bd.returns (hb hby d12_18) hr
 ·show Qrm_ps_1_1_16 Z x1 t1 k1 xs0 a1 d1 kd xe0 z0 h0 n0 _ T244.heap _
  rw [e244]
  exact ⟨rfl, N244, ((Keep.refl h0 [d1]).trans K244 (allS (P := fun x => x ∈ _ ∨ _) (Or.inl (List.mem_of_getElem? (i := 0) rfl)) all0)), p244_0⟩
def Qrm_aa_1_1_16 (Z : State) (x1 : Addr) (t1 : Addr) (k1 : ClassId) (xs0 : Int32) (a1 : Addr) (d1 : Addr) (kd : ClassId) (xe0 : Int32) (z0 : Int32) (h0 : Heap) (n0 : Nat) (v : Option Value) (h : Heap) (L : List Loc) : Prop := v = some (.ref a1) ∧ Fr n0 L ∧ Keep h0 h [a1, d1] ∧ Exa Z h a1 kS2 ∧ Fld Z h a1 kS0 "value" "[B" (.ref d1) ∧ Fld Z h a1 kS0 "coder" "B" (.int 0) ∧ Fld Z h a1 kS0 "count" "I" (.int 2) ∧ Arv Z h d1 kd .byte (16 : Int32) [(.int xe0), (.int xs0), (.int 0), (.int 0), (.int 0), (.int 0), (.int 0), (.int 0), (.int 0), (.int 0), (.int 0), (.int 0), (.int 0), (.int 0), (.int 0), (.int 0)] (.int 0)
theorem ef_rm_aa_1_1_16 (m : MethodId) (x0 : Addr) (x1 : Addr) : entryFrame m #[(.ref x0), (.ref x1)] 3 = mkF m 0 (la11 x0 x1) [] := by first | rfl | (simp [entryFrame, mkF, argsToLocals, Value.category]; done)
theorem rm_aa_1_1_16 (l : Launch) (Z : State) (a0 : Array Value) (hw : HW Z a0) (ws : List Jvm.Cond) (x1 : Addr) (t1 : Addr) (k1 : ClassId) (xs0 : Int32) (a1 : Addr) (d1 : Addr) (kd : ClassId) (xe0 : Int32) (z0 : Int32) (h0 : Heap) (n0 : Nat) (Z0 : n0 ≤ h0.size) (O0 : Old Z n0 h0) (Esx1 : Exa Z h0 x1 kS1) (Fcx1 : Fld Z h0 x1 kS1 "coder" "B" (.int 0)) (Fvx1 : Fld Z h0 x1 kS1 "value" "[B" (.ref t1)) (Vsx1 : Arv Z h0 t1 k1 .byte (1 : Int32) [(.int xs0)] (.int 0)) (Eb : Exa Z h0 a1 kS2) (Fbv : Fld Z h0 a1 kS0 "value" "[B" (.ref d1)) (Fbc : Fld Z h0 a1 kS0 "coder" "B" (.int 0)) (Fbn : Fld Z h0 a1 kS0 "count" "I" (.int 1)) (Vb : Arv Z h0 d1 kd .byte (16 : Int32) [(.int xe0), (.int 0), (.int 0), (.int 0), (.int 0), (.int 0), (.int 0), (.int 0), (.int 0), (.int 0), (.int 0), (.int 0), (.int 0), (.int 0), (.int 0), (.int 0)] (.int 0)) (SZc : Sta Z Z.heap kS1 "COMPACT_STRINGS" "Z" (.int z0)) (hz0 : ¬ z0 = 0) (ga : n0 ≤ a1) (gd : n0 ≤ d1) (ned : t1 ≠ d1) :
  OwnM l Z h0 (⟨kS0, "append", kS3⟩ : MethodName) (Jvm.Cond.code (⟨kS0, "append", kS3⟩ : MethodName) jdk_68_method_22_code 3 (some (.object kS0)) :: ws) (RM 3 0 0 47) #[(.ref a1), (.ref x1)] (Qrm_aa_1_1_16 Z x1 t1 k1 xs0 a1 d1 kd xe0 z0 h0 n0) := by
 refine MetFree.of_bodySF (plainFor_of_name pn_2) hisR ?_
 intro p e s m args below meth c s₁ Bd hml0 hP hK
 obtain ⟨rfl, hZ, hh⟩ := hP
 have hx := Bd.exec
 have hby := Bd.bytes
 have hml : c.maxLocals = 3 := hml0
 have hown : s.vm.findClass kS0 = some m.cls := findClass_of_methodNamed Bd.named
 have hnm := (name_of_methodNamed Bd.named Bd.method).1
 have X0 : Stand p l e (RM 3 0 0 47) s m #[(.ref a1), (.ref x1)] below meth c s₁ [] 0 0 := Stand.of_body Bd
 have e0 : s₁.heap = h0 := by rw [← hh, Bd.state]; rfl
 have N0 := Fr.nil n0
 have pre0 : ∀ t, GO p e below s₁ (mkF m 0 (la11 a1 x1) []) t → GO p e below s₁ (entryFrame m #[(.ref a1), (.ref x1)] 3) t := fun t k => castTop (ef_rm_aa_1_1_16 m a1 x1) k
 have lt_Esx1 := ltA Esx1.lt
 have lt_Fcx1 := ltA Fcx1.lt
 have lt_Fvx1 := ltA Fvx1.lt
 have lt_Vsx1 := ltA Vsx1.lt
 have lt_Eb := ltA Eb.lt
 have lt_Fbv := ltA Fbv.lt
 have lt_Fbc := ltA Fbc.lt
 have lt_Fbn := ltA Fbn.lt
 have lt_Vb := ltA Vb.lt
 -- pc 10: String.length by rm_sl1
 obtain ⟨cq245, kq245, q245a, q245b, q245c⟩ := isOf hZ e0 Esx1
 obtain ⟨_, _, ⟨T245, L245, k245, n245⟩, -, X245, ⟨Lc245, hQ245, l245, y245, z245⟩, st245⟩ := X0.virtualBack hx (y := (⟨kS1, "length", "()I"⟩ : MethodName)) (z := (⟨kS1, "length", "()I"⟩ : MethodName)) hown (mvT hZ (wd hw 54 rfl)) (mvT hZ (wd hw 55 rfl)) (notFace_of_selects (args := #[]) (mvT hZ (wd hw 57 rfl))) (mvT hZ (wd hw 57 rfl)) (mvT hZ (wd hw 56 rfl)) (by decide) (backOf (W := 0) (rm_sl1 l Z a0 hw [] x1 t1 k1 xs0 z0 h0 n0 (by omega) O0 Esx1 Fcx1 Fvx1 Vsx1 (by first | assumption | decide | omega) (by first | assumption | decide | omega)) hZ (wd hw 58 rfl) (wd hw 3 rfl) (by decide) (by decide)) q245a q245c (g := (mkF m 10 (la11 a1 x1) [(.ref x1)])) rfl (by rw [hml]; rfl) (Steps.refl _) (argsL := []) (rest := []) (lenOf pd_8 rfl) rfl (wz rfl) (hb hby d8_10) (fun _ _ => ⟨rfl, e0, (by decide : 0 + 0 ≤ _), (by decide : 0 + 0 ≤ _)⟩)
 dsimp only [Pt.U, Pt.locs, Pt.cells, Pt.slots] at X245 l245 y245 z245 st245 hQ245
 subst l245 y245 z245
 obtain ⟨rfl, N245q, e245⟩ := hQ245
 have N245 := Fr.app N0 N245q
 obtain ⟨T246, X246, e246, st246⟩ := getF X245 hx hZ hown (host := "") (Or.inl (wd hw 65 rfl)) Via.refl e245 Fbn (g := (mkF m 16 (la12 a1 x1 (1 : Int32)) [(.ref a1), (.ref a1)])) rfl rfl (hb hby d8_16)
 -- pc 21: AbstractStringBuilder.ensureCapacityInternal by rm_en_16
 obtain ⟨cq247, q247a, q247b⟩ := Eb.cell
 obtain ⟨_, _, ⟨T247, L247, k247, n247⟩, -, X247, ⟨Lc247, hQ247, l247, y247, z247⟩, st247⟩ := X246.privateBack hx (y := (⟨kS0, "ensureCapacityInternal", "(I)V"⟩ : MethodName)) hown (mvT hZ (wd hw 67 rfl)) (mvT hZ (wd hw 68 rfl)) (mvT hZ (own_selfsel (wd hw 70 rfl) (wd hw 69 rfl) (wd hw 68 rfl) (by decide))) (Cond.privateMethod_at (mvP hZ (wd hw 69 rfl) (args := #[]))) (mvT hZ (wd hw 71 rfl)) (by decide) (backOf (W := 0) (rm_en_16 l Z a0 hw [] a1 d1 kd ([(.int xe0), (.int 0), (.int 0), (.int 0), (.int 0), (.int 0), (.int 0), (.int 0), (.int 0), (.int 0), (.int 0), (.int 0), (.int 0), (.int 0), (.int 0), (.int 0)]) (2 : Int32) h0 n0 (by omega) Fbv Fbc Vb (by decide)) hZ (wd hw 71 rfl) (wd hw 36 rfl) (by decide) (by decide)) (g := (mkF m 21 (la12 a1 x1 (1 : Int32)) [(.int 2), (.ref a1)])) rfl (by rw [hml]; rfl) (Steps.refl _) (a := a1) (by rw [e246]; exact q247a) q247b (argsL := [(.int 2)]) (rest := []) (lenOf pd_5 rfl) rfl (wz rfl) (hb hby d8_21) (fun _ _ => ⟨rfl, e246, (by decide : 0 + 0 ≤ _), (by decide : 0 + 0 ≤ _)⟩)
 dsimp only [Pt.U, Pt.locs, Pt.cells, Pt.slots] at X247 l247 y247 z247 st247 hQ247
 subst l247 y247 z247
 obtain ⟨rfl, N247q, e247⟩ := hQ247
 have N247 := Fr.app N245 N247q
 obtain ⟨T248, X248, e248, st248⟩ := getF X247 hx hZ hown (host := "") (Or.inl (wd hw 65 rfl)) Via.refl e247 Fbn (g := (mkF m 26 (la12 a1 x1 (1 : Int32)) [(.ref a1), (.ref a1)])) rfl rfl (hb hby d8_26)
 -- pc 30: AbstractStringBuilder.putStringAt by rm_ps_1_1_16
 obtain ⟨cq249, q249a, q249b⟩ := Eb.cell
 obtain ⟨_, _, ⟨T249, L249, k249, n249⟩, -, X249, ⟨Lc249, hQ249, l249, y249, z249⟩, st249⟩ := X248.privateBack hx (y := (⟨kS0, "putStringAt", "(ILjava/lang/String;)V"⟩ : MethodName)) hown (mvT hZ (wd hw 72 rfl)) (mvT hZ (wd hw 73 rfl)) (mvT hZ (own_selfsel (wd hw 75 rfl) (wd hw 74 rfl) (wd hw 73 rfl) (by decide))) (Cond.privateMethod_at (mvP hZ (wd hw 74 rfl) (args := #[]))) (mvT hZ (wd hw 76 rfl)) (by decide) (backOf (W := 0) (rm_ps_1_1_16 l Z a0 hw [] x1 t1 k1 xs0 a1 d1 kd xe0 z0 h0 n0 (by omega) O0 Esx1 Fcx1 Fvx1 Vsx1 Eb Fbv Fbc Fbn Vb (by first | assumption | decide | omega) (by first | assumption | decide | omega) (by first | assumption | decide | omega) ned) hZ (wd hw 76 rfl) (wd hw 36 rfl) (by decide) (by decide)) (g := (mkF m 30 (la12 a1 x1 (1 : Int32)) [(.ref x1), (.int 1), (.ref a1)])) rfl (by rw [hml]; rfl) (Steps.refl _) (a := a1) (by rw [e248]; exact q249a) q249b (argsL := [(.int 1), (.ref x1)]) (rest := []) (lenOf pd_9 rfl) rfl (wz rfl) (hb hby d8_30) (fun _ _ => ⟨rfl, e248, (by decide : 0 + 0 ≤ _), (by decide : 0 + 0 ≤ _)⟩)
 dsimp only [Pt.U, Pt.locs, Pt.cells, Pt.slots] at X249 l249 y249 z249 st249 hQ249
 subst l249 y249 z249
 obtain ⟨h249, e249⟩ : ∃ z, T249.heap = z := ⟨_, rfl⟩
 rw [e249] at hQ249
 obtain ⟨rfl, N249q, K249, p249_0⟩ := hQ249
 have N249 := Fr.app N247 N249q
 have ne250 : d1 ≠ x1 := Ne.symm (Exa.neArv Esx1 Vb (wd hw 2 rfl))
 have ne251 : d1 ≠ a1 := Ne.symm (Exa.neArv Eb Vb (wd hw 27 rfl))
 have sz249 : h0.size ≤ h249.size := K249.1
 have lt249_0 := ltA p249_0.lt
 have f252 : Fld Z h249 a1 kS0 "count" "I" (.int 1) := (Fbn.keep K249 (ninS (Ne.symm ne251) nin0))
 obtain ⟨T253, X253, e253, st253⟩ := getF X249 hx hZ hown (host := "") (Or.inl (wd hw 65 rfl)) Via.refl e249 f252 (g := (mkF m 35 (la12 a1 x1 (1 : Int32)) [(.ref a1), (.ref a1)])) rfl rfl (hb hby d8_35)
 have f254 : Exa Z h249 a1 kS2 := (Eb.keep K249)
 obtain ⟨T255, h255, X255, e255, W255, st255⟩ := putF X253 hx hZ hown (host := "") (Or.inl (wd hw 65 rfl)) Via.refl e253 f252 f254 (Or.inl (wd hw 66 rfl)) (wd hw 27 rfl) (ty := .int) (by decide) rfl rfl (g := (mkF m 40 (la12 a1 x1 (1 : Int32)) [(.int 2), (.ref a1)])) rfl rfl (hb hby d8_40)
 have N255 := Fr.snoc X255 N249 (by omega : n0 ≤ a1)
 have f256 : Exa Z h249 x1 kS1 := (Esx1.keep K249)
 have ne257 : a1 ≠ x1 := ne_exa f254 f256 (by decide)
 have f258 : Arv Z h249 t1 k1 .byte (1 : Int32) [(.int xs0)] (.int 0) := (Vsx1.keep K249 (ninS ned nin0))
 have ne259 : a1 ≠ t1 := Exa.neArv f254 f258 (wd hw 27 rfl)
 have sz255 : h249.size ≤ h255.size := Nat.le_of_eq W255.size.symm
 have f255 : Fld Z h255 a1 kS0 "count" "I" (.int 2) := f252.same W255
 have f260 : Exa Z h255 a1 kS2 := (f254.wr W255)
 have f261 : Fld Z h255 a1 kS0 "value" "[B" (.ref d1) := ((Fbv.keep K249 (ninS (Ne.symm ne251) nin0)).other W255 (Or.inr (slot_ne (Or.inl (wd hw 41 rfl)) (Or.inl (wd hw 66 rfl)) (by decide) (t := (.array .byte)) (t' := .int) (by decide) (by decide))))
 have f262 : Fld Z h255 a1 kS0 "coder" "B" (.int 0) := ((Fbc.keep K249 (ninS (Ne.symm ne251) nin0)).other W255 (Or.inr (slot_ne (Or.inl (wd hw 43 rfl)) (Or.inl (wd hw 66 rfl)) (by decide) (t := .byte) (t' := .int) (by decide) (by decide))))
 have f263 : Arv Z h255 d1 kd .byte (16 : Int32) [(.int xe0), (.int xs0), (.int 0), (.int 0), (.int 0), (.int 0), (.int 0), (.int 0), (.int 0), (.int 0), (.int 0), (.int 0), (.int 0), (.int 0), (.int 0), (.int 0)] (.int 0) := (p249_0.other W255 ne251)
 obtain ⟨fs, hr, hrun, hended, hW, hsame⟩ := X255.leave (v := some (.ref a1)) (fun h => by rw [Bd.returns] at h; cases h)
 refine ⟨_, _, pre0 _ ?_, hrun, hended, _, _, rfl, ?_, ⟨_, rfl⟩, hW, hsame.mono (by decide) (by decide)⟩
 ·show GO p e below s₁ (mkF m 0 (la11 a1 x1) []) _
  refine XS.aloadN X0.here hx rfl (hb hby d8_0) rfl rfl ?_
  show GO p e below s₁ (mkF m 1 (la11 a1 x1) [(.ref x1)]) _
  refine XS.ifnonnullYes X0.here hx rfl (pc0 := 1) (pc' := 9) rfl (hb hby d8_1) rfl (by decide) (by decide) ?_
  show GO p e below s₁ (mkF m 9 (la11 a1 x1) []) _
  refine XS.aloadN X0.here hx rfl (hb hby d8_9) rfl rfl ?_
  show GO p e below s₁ (mkF m 10 (la11 a1 x1) [(.ref x1)]) _
  refine st245.trans ?_
  show GO p e below T245 (mkF m 13 (la11 a1 x1) [(.int 1)]) _
  refine XS.istoreN X245.here hx rfl (hb hby d8_13) rfl (l' := (la12 a1 x1 (1 : Int32))) rfl ?_
  show GO p e below T245 (mkF m 14 (la12 a1 x1 (1 : Int32)) []) _
  refine XS.aloadN X245.here hx rfl (hb hby d8_14) rfl rfl ?_
  show GO p e below T245 (mkF m 15 (la12 a1 x1 (1 : Int32)) [(.ref a1)]) _
  refine XS.aloadN X245.here hx rfl (hb hby d8_15) rfl rfl ?_
  show GO p e below T245 (mkF m 16 (la12 a1 x1 (1 : Int32)) [(.ref a1), (.ref a1)]) _
  refine st246 _ ?_
  show GO p e below T246 (mkF m 19 (la12 a1 x1 (1 : Int32)) [(.int 1), (.ref a1)]) _
  refine XS.iloadN X246.here hx rfl (hb hby d8_19) rfl ?_
  show GO p e below T246 (mkF m 20 (la12 a1 x1 (1 : Int32)) [(.int 1), (.int 1), (.ref a1)]) _
  refine XS.iadd X246.here hx rfl (hb hby d8_20) rfl ?_
  rw [show ((1 : Int32) + (1 : Int32)) = (2 : Int32) from by decide]
  show GO p e below T246 (mkF m 21 (la12 a1 x1 (1 : Int32)) [(.int 2), (.ref a1)]) _
  refine st247.trans ?_
  show GO p e below T247 (mkF m 24 (la12 a1 x1 (1 : Int32)) []) _
  refine XS.aloadN X247.here hx rfl (hb hby d8_24) rfl rfl ?_
  show GO p e below T247 (mkF m 25 (la12 a1 x1 (1 : Int32)) [(.ref a1)]) _
  refine XS.aloadN X247.here hx rfl (hb hby d8_25) rfl rfl ?_
  show GO p e below T247 (mkF m 26 (la12 a1 x1 (1 : Int32)) [(.ref a1), (.ref a1)]) _
  refine st248 _ ?_
  show GO p e below T248 (mkF m 29 (la12 a1 x1 (1 : Int32)) [(.int 1), (.ref a1)]) _
  refine XS.aloadN X248.here hx rfl (hb hby d8_29) rfl rfl ?_
  show GO p e below T248 (mkF m 30 (la12 a1 x1 (1 : Int32)) [(.ref x1), (.int 1), (.ref a1)]) _
  refine st249.trans ?_
  show GO p e below T249 (mkF m 33 (la12 a1 x1 (1 : Int32)) []) _
  refine XS.aloadN X249.here hx rfl (hb hby d8_33) rfl rfl ?_
  show GO p e below T249 (mkF m 34 (la12 a1 x1 (1 : Int32)) [(.ref a1)]) _
  refine XS.dup X249.here hx rfl (hb hby d8_34) rfl rfl ?_
  show GO p e below T249 (mkF m 35 (la12 a1 x1 (1 : Int32)) [(.ref a1), (.ref a1)]) _
  refine st253 _ ?_
  show GO p e below T253 (mkF m 38 (la12 a1 x1 (1 : Int32)) [(.int 1), (.ref a1)]) _
  refine XS.iloadN X253.here hx rfl (hb hby d8_38) rfl ?_
  show GO p e below T253 (mkF m 39 (la12 a1 x1 (1 : Int32)) [(.int 1), (.int 1), (.ref a1)]) _
  refine XS.iadd X253.here hx rfl (hb hby d8_39) rfl ?_
  rw [show ((1 : Int32) + (1 : Int32)) = (2 : Int32) from by decide]
  show GO p e below T253 (mkF m 40 (la12 a1 x1 (1 : Int32)) [(.int 2), (.ref a1)]) _
  refine st255 _ ?_
  show GO p e below T255 (mkF m 43 (la12 a1 x1 (1 : Int32)) []) _
  refine XS.aloadN X255.here hx rfl (hb hby d8_43) rfl rfl ?_
  show GO p e below T255 (mkF m 44 (la12 a1 x1 (1 : Int32)) [(.ref a1)]) _
  exact retOut X255 hx Bd.returns rfl (Or.inr (Or.inr (Or.inr (Or.inr ⟨rfl, rfl, rfl⟩)))) (hb hby d8_44) hr
 ·show Qrm_aa_1_1_16 Z x1 t1 k1 xs0 a1 d1 kd xe0 z0 h0 n0 _ T255.heap _
  rw [e255]
  exact ⟨rfl, N255, (((Keep.refl h0 [a1, d1]).trans K249 (allS (P := fun x => x ∈ _ ∨ _) (Or.inl (List.mem_of_getElem? (i := 1) rfl)) all0)).wr W255 (Or.inl (List.mem_of_getElem? (i := 0) rfl))), f260, f261, f262, f255, f263⟩
def Qrm_sa_1_1_16 (Z : State) (x1 : Addr) (t1 : Addr) (k1 : ClassId) (xs0 : Int32) (a1 : Addr) (d1 : Addr) (kd : ClassId) (xe0 : Int32) (z0 : Int32) (h0 : Heap) (n0 : Nat) (v : Option Value) (h : Heap) (L : List Loc) : Prop := v = some (.ref a1) ∧ Fr n0 L ∧ Keep h0 h [a1, d1] ∧ Exa Z h a1 kS2 ∧ Fld Z h a1 kS0 "value" "[B" (.ref d1) ∧ Fld Z h a1 kS0 "coder" "B" (.int 0) ∧ Fld Z h a1 kS0 "count" "I" (.int 2) ∧ Arv Z h d1 kd .byte (16 : Int32) [(.int xe0), (.int xs0), (.int 0), (.int 0), (.int 0), (.int 0), (.int 0), (.int 0), (.int 0), (.int 0), (.int 0), (.int 0), (.int 0), (.int 0), (.int 0), (.int 0)] (.int 0)
theorem ef_rm_sa_1_1_16 (m : MethodId) (x0 : Addr) (x1 : Addr) : entryFrame m #[(.ref x0), (.ref x1)] 2 = mkF m 0 #[.val (.ref x0), .val (.ref x1)] [] := by first | rfl | (simp [entryFrame, mkF, argsToLocals, Value.category]; done)
theorem rm_sa_1_1_16 (l : Launch) (Z : State) (a0 : Array Value) (hw : HW Z a0) (ws : List Jvm.Cond) (x1 : Addr) (t1 : Addr) (k1 : ClassId) (xs0 : Int32) (a1 : Addr) (d1 : Addr) (kd : ClassId) (xe0 : Int32) (z0 : Int32) (h0 : Heap) (n0 : Nat) (Z0 : n0 ≤ h0.size) (O0 : Old Z n0 h0) (Esx1 : Exa Z h0 x1 kS1) (Fcx1 : Fld Z h0 x1 kS1 "coder" "B" (.int 0)) (Fvx1 : Fld Z h0 x1 kS1 "value" "[B" (.ref t1)) (Vsx1 : Arv Z h0 t1 k1 .byte (1 : Int32) [(.int xs0)] (.int 0)) (Eb : Exa Z h0 a1 kS2) (Fbv : Fld Z h0 a1 kS0 "value" "[B" (.ref d1)) (Fbc : Fld Z h0 a1 kS0 "coder" "B" (.int 0)) (Fbn : Fld Z h0 a1 kS0 "count" "I" (.int 1)) (Vb : Arv Z h0 d1 kd .byte (16 : Int32) [(.int xe0), (.int 0), (.int 0), (.int 0), (.int 0), (.int 0), (.int 0), (.int 0), (.int 0), (.int 0), (.int 0), (.int 0), (.int 0), (.int 0), (.int 0), (.int 0)] (.int 0)) (SZc : Sta Z Z.heap kS1 "COMPACT_STRINGS" "Z" (.int z0)) (hz0 : ¬ z0 = 0) (ga : n0 ≤ a1) (gd : n0 ≤ d1) (ned : t1 ≠ d1) :
  OwnM l Z h0 (⟨kS2, "append", "(Ljava/lang/String;)Ljava/lang/StringBuilder;"⟩ : MethodName) (Jvm.Cond.code (⟨kS2, "append", "(Ljava/lang/String;)Ljava/lang/StringBuilder;"⟩ : MethodName) jdk_67_method_7_code 2 (some (.object kS2)) :: ws) (RM 4 0 0 61) #[(.ref a1), (.ref x1)] (Qrm_sa_1_1_16 Z x1 t1 k1 xs0 a1 d1 kd xe0 z0 h0 n0) := by
 refine MetFree.of_bodySF (plainFor_of_name pn_3) hisR ?_
 intro p e s m args below meth c s₁ Bd hml0 hP hK
 obtain ⟨rfl, hZ, hh⟩ := hP
 have hx := Bd.exec
 have hby := Bd.bytes
 have hml : c.maxLocals = 2 := hml0
 have hown : s.vm.findClass kS2 = some m.cls := findClass_of_methodNamed Bd.named
 have hnm := (name_of_methodNamed Bd.named Bd.method).1
 have X0 : Stand p l e (RM 4 0 0 61) s m #[(.ref a1), (.ref x1)] below meth c s₁ [] 0 0 := Stand.of_body Bd
 have e0 : s₁.heap = h0 := by rw [← hh, Bd.state]; rfl
 have N0 := Fr.nil n0
 have pre0 : ∀ t, GO p e below s₁ (mkF m 0 #[.val (.ref a1), .val (.ref x1)] []) t → GO p e below s₁ (entryFrame m #[(.ref a1), (.ref x1)] 2) t := fun t k => castTop (ef_rm_sa_1_1_16 m a1 x1) k
 have lt_Esx1 := ltA Esx1.lt
 have lt_Fcx1 := ltA Fcx1.lt
 have lt_Fvx1 := ltA Fvx1.lt
 have lt_Vsx1 := ltA Vsx1.lt
 have lt_Eb := ltA Eb.lt
 have lt_Fbv := ltA Fbv.lt
 have lt_Fbc := ltA Fbc.lt
 have lt_Fbn := ltA Fbn.lt
 have lt_Vb := ltA Vb.lt
 -- pc 2: AbstractStringBuilder.append by rm_aa_1_1_16
 obtain ⟨_, _, ⟨T264, L264, k264, n264⟩, -, X264, ⟨Lc264, hQ264, l264, y264, z264⟩, st264⟩ := superBack X0 hx hZ (y := (⟨kS0, "append", kS3⟩ : MethodName)) hown (wd hw 49 rfl) (own_sameM (y := (⟨kS0, "append", kS3⟩ : MethodName)) (wd hw 50 rfl) (wd hw 70 rfl) rfl (by decide)) (wd hw 50 rfl) (wd hw 51 rfl) (by decide) (backOf (W := 0) (rm_aa_1_1_16 l Z a0 hw [] x1 t1 k1 xs0 a1 d1 kd xe0 z0 h0 n0 (by omega) O0 Esx1 Fcx1 Fvx1 Vsx1 Eb Fbv Fbc Fbn Vb (by first | assumption | decide | omega) (by first | assumption | decide | omega) (by first | assumption | decide | omega) (by first | assumption | decide | omega) ned) hZ (wd hw 53 rfl) (wd hw 36 rfl) (by decide) (by decide)) e0 (Ins.self Eb) (g := (mkF m 2 #[.val (.ref a1), .val (.ref x1)] [(.ref x1), (.ref a1)])) rfl (by rw [hml]; rfl) (wd hw 53 rfl) (argsL := [(.ref x1)]) (rest := []) (lenOf pd_10 rfl) rfl (wz rfl) (hb hby d7_2) (fun _ _ => ⟨rfl, e0, (by decide : 0 + 0 ≤ _), (by decide : 0 + 0 ≤ _)⟩)
 dsimp only [Pt.U, Pt.locs, Pt.cells, Pt.slots] at X264 l264 y264 z264 st264 hQ264
 subst l264 y264 z264
 obtain ⟨h264, e264⟩ : ∃ z, T264.heap = z := ⟨_, rfl⟩
 rw [e264] at hQ264
 obtain ⟨rfl, N264q, K264, p264_0, p264_1, p264_2, p264_3, p264_4⟩ := hQ264
 have N264 := Fr.app N0 N264q
 have ne265 : a1 ≠ x1 := ne_exa Eb Esx1 (by decide)
 have ne266 : a1 ≠ t1 := Exa.neArv Eb Vsx1 (wd hw 27 rfl)
 have ne267 : a1 ≠ d1 := Exa.neArv Eb Vb (wd hw 27 rfl)
 have ne268 : d1 ≠ x1 := Ne.symm (Exa.neArv Esx1 Vb (wd hw 2 rfl))
 have sz264 : h0.size ≤ h264.size := K264.1
 have lt264_0 := ltA p264_0.lt
 have lt264_4 := ltA p264_4.lt
 obtain ⟨fs, hr, hrun, hended, hW, hsame⟩ := X264.leave (v := some (.ref a1)) (fun h => by rw [Bd.returns] at h; cases h)
 refine ⟨_, _, pre0 _ ?_, hrun, hended, _, _, rfl, ?_, ⟨_, rfl⟩, hW, hsame.mono (by decide) (by decide)⟩
 ·show GO p e below s₁ (mkF m 0 #[.val (.ref a1), .val (.ref x1)] []) _
  refine XS.aloadN X0.here hx rfl (hb hby d7_0) rfl rfl ?_
  show GO p e below s₁ (mkF m 1 #[.val (.ref a1), .val (.ref x1)] [(.ref a1)]) _
  refine XS.aloadN X0.here hx rfl (hb hby d7_1) rfl rfl ?_
  show GO p e below s₁ (mkF m 2 #[.val (.ref a1), .val (.ref x1)] [(.ref x1), (.ref a1)]) _
  refine st264.trans ?_
  show GO p e below T264 (mkF m 5 #[.val (.ref a1), .val (.ref x1)] [(.ref a1)]) _
  refine XS.pop X264.here hx rfl (hb hby d7_5) rfl rfl ?_
  show GO p e below T264 (mkF m 6 #[.val (.ref a1), .val (.ref x1)] []) _
  refine XS.aloadN X264.here hx rfl (hb hby d7_6) rfl rfl ?_
  show GO p e below T264 (mkF m 7 #[.val (.ref a1), .val (.ref x1)] [(.ref a1)]) _
  exact retOut X264 hx Bd.returns rfl (Or.inr (Or.inr (Or.inr (Or.inr ⟨rfl, rfl, rfl⟩)))) (hb hby d7_7) hr
 ·show Qrm_sa_1_1_16 Z x1 t1 k1 xs0 a1 d1 kd xe0 z0 h0 n0 _ T264.heap _
  rw [e264]
  exact ⟨rfl, N264, ((Keep.refl h0 [a1, d1]).trans K264 (allS (P := fun x => x ∈ _ ∨ _) (Or.inl (List.mem_of_getElem? (i := 0) rfl)) (allS (P := fun x => x ∈ _ ∨ _) (Or.inl (List.mem_of_getElem? (i := 1) rfl)) all0))), p264_0, p264_1, p264_2, p264_3, p264_4⟩
def Qrm_cl2 (Z : State)  (h0 : Heap) (n0 : Nat) (v : Option Value) (h : Heap) (L : List Loc) : Prop := v = none ∧ Fr n0 L ∧ h = h0
theorem ef_rm_cl2 (m : MethodId) (x0 : Int32) (x1 : Int32) : entryFrame m #[(.int x0), (.int x1)] 2 = mkF m 0 #[.val (.int x0), .val (.int x1)] [] := by first | rfl | (simp [entryFrame, mkF, argsToLocals, Value.category]; done)
theorem rm_cl2 (l : Launch) (Z : State) (a0 : Array Value) (hw : HW Z a0) (ws : List Jvm.Cond)  (h0 : Heap) (n0 : Nat) (Z0 : n0 ≤ h0.size) :
  OwnM l Z h0 (⟨"java/util/Arrays", "checkLength", "(II)V"⟩ : MethodName) (Jvm.Cond.code (⟨"java/util/Arrays", "checkLength", "(II)V"⟩ : MethodName) jdk_65_method_131_code 2 none :: ws) (RM 0 0 0 0) #[(.int 0), (.int 2)] (Qrm_cl2 Z  h0 n0) := by
 refine MetFree.of_bodySF (plainFor_of_name pn_4) hisR ?_
 intro p e s m args below meth c s₁ Bd hml0 hP hK
 obtain ⟨rfl, hZ, hh⟩ := hP
 have hx := Bd.exec
 have hby := Bd.bytes
 have hml : c.maxLocals = 2 := hml0
 have hown : s.vm.findClass "java/util/Arrays" = some m.cls := findClass_of_methodNamed Bd.named
 have hnm := (name_of_methodNamed Bd.named Bd.method).1
 have X0 : Stand p l e (RM 0 0 0 0) s m #[(.int 0), (.int 2)] below meth c s₁ [] 0 0 := Stand.of_body Bd
 have e0 : s₁.heap = h0 := by rw [← hh, Bd.state]; rfl
 have N0 := Fr.nil n0
 have pre0 : ∀ t, GO p e below s₁ (mkF m 0 #[.val (.int 0), .val (.int 2)] []) t → GO p e below s₁ (entryFrame m #[(.int 0), (.int 2)] 2) t := fun t k => castTop (ef_rm_cl2 m ((0 : Int32)) ((2 : Int32))) k
 obtain ⟨fs, hr, hrun, hended, hW, hsame⟩ := X0.leave (v := none) (fun _ => rfl)
 refine ⟨_, _, pre0 _ ?_, hrun, hended, _, _, rfl, ?_, ⟨_, rfl⟩, hW, hsame.mono (by decide) (by decide)⟩
 ·show GO p e below s₁ (mkF m 0 #[.val (.int 0), .val (.int 2)] []) _
  refine XS.iloadN X0.here hx rfl (hb hby d24_0) rfl ?_
  show GO p e below s₁ (mkF m 1 #[.val (.int 0), .val (.int 2)] [(.int 2)]) _
  refine XS.iloadN X0.here hx rfl (hb hby d24_1) rfl ?_
  show GO p e below s₁ (mkF m 2 #[.val (.int 0), .val (.int 2)] [(.int 0), (.int 2)]) _
  refine XS.icmpYes X0.here hx rfl (pc0 := 2) (pc' := 37) rfl (hb hby d24_2) rfl (flt ((by decide) : ¬ ((2 : Int32) < (0 : Int32)))).2.1 (by decide) (by decide) ?_
  show GO p e below s₁ (mkF m 37 #[.val (.int 0), .val (.int 2)] []) _
  exact X0.returnOut hx Bd.returns (hb hby d24_37) hr
 ·show Qrm_cl2 Z  h0 n0 _ s₁.heap _
  rw [e0]
  exact ⟨rfl, N0, rfl⟩
def Qrm_mi_16_2 (Z : State)  (h0 : Heap) (n0 : Nat) (v : Option Value) (h : Heap) (L : List Loc) : Prop := v = some (.int 2) ∧ Fr n0 L ∧ h = h0
theorem ef_rm_mi_16_2 (m : MethodId) (x0 : Int32) (x1 : Int32) : entryFrame m #[(.int x0), (.int x1)] 2 = mkF m 0 #[.val (.int x0), .val (.int x1)] [] := by first | rfl | (simp [entryFrame, mkF, argsToLocals, Value.category]; done)
theorem rm_mi_16_2 (l : Launch) (Z : State) (a0 : Array Value) (hw : HW Z a0) (ws : List Jvm.Cond)  (h0 : Heap) (n0 : Nat) (Z0 : n0 ≤ h0.size) :
  OwnM l Z h0 (⟨"java/lang/Math", "min", "(II)I"⟩ : MethodName) (Jvm.Cond.code (⟨"java/lang/Math", "min", "(II)I"⟩ : MethodName) jdk_29_method_69_code 2 (some .int) :: ws) (RM 0 0 0 0) #[(.int 16), (.int 2)] (Qrm_mi_16_2 Z  h0 n0) := by
 refine MetFree.of_bodySF (Jvm.Free.JP.mathPlain rfl (by decide +kernel)) hisR ?_
 intro p e s m args below meth c s₁ Bd hml0 hP hK
 obtain ⟨rfl, hZ, hh⟩ := hP
 have hx := Bd.exec
 have hby := Bd.bytes
 have hml : c.maxLocals = 2 := hml0
 have hown : s.vm.findClass "java/lang/Math" = some m.cls := findClass_of_methodNamed Bd.named
 have hnm := (name_of_methodNamed Bd.named Bd.method).1
 have X0 : Stand p l e (RM 0 0 0 0) s m #[(.int 16), (.int 2)] below meth c s₁ [] 0 0 := Stand.of_body Bd
 have e0 : s₁.heap = h0 := by rw [← hh, Bd.state]; rfl
 have N0 := Fr.nil n0
 have pre0 : ∀ t, GO p e below s₁ (mkF m 0 #[.val (.int 16), .val (.int 2)] []) t → GO p e below s₁ (entryFrame m #[(.int 16), (.int 2)] 2) t := fun t k => castTop (ef_rm_mi_16_2 m ((16 : Int32)) ((2 : Int32))) k
 obtain ⟨fs, hr, hrun, hended, hW, hsame⟩ := X0.leave (v := some (.int 2)) (fun h => by rw [Bd.returns] at h; cases h)
 refine ⟨_, _, pre0 _ ?_, hrun, hended, _, _, rfl, ?_, ⟨_, rfl⟩, hW, hsame.mono (by decide) (by decide)⟩
 ·show GO p e below s₁ (mkF m 0 #[.val (.int 16), .val (.int 2)] []) _
  refine XS.iloadN X0.here hx rfl (hb hby d25_0) rfl ?_
  show GO p e below s₁ (mkF m 1 #[.val (.int 16), .val (.int 2)] [(.int 16)]) _
  refine XS.iloadN X0.here hx rfl (hb hby d25_1) rfl ?_
  show GO p e below s₁ (mkF m 2 #[.val (.int 16), .val (.int 2)] [(.int 2), (.int 16)]) _
  refine XS.icmpYes X0.here hx rfl (pc0 := 2) (pc' := 9) rfl (hb hby d25_2) rfl (tlt ((by decide) : (2 : Int32) < (16 : Int32))).2.2.1 (by decide) (by decide) ?_
  show GO p e below s₁ (mkF m 9 #[.val (.int 16), .val (.int 2)] []) _
  refine XS.iloadN X0.here hx rfl (hb hby d25_9) rfl ?_
  show GO p e below s₁ (mkF m 10 #[.val (.int 16), .val (.int 2)] [(.int 2)]) _
  exact retI X0 hx Bd.returns (hb hby d25_10) hr
 ·show Qrm_mi_16_2 Z  h0 n0 _ s₁.heap _
  rw [e0]
  exact ⟨rfl, N0, rfl⟩
def Qrm_cb_2_16 (Z : State) (d1 : Addr) (kd : ClassId) (xe0 : Int32) (xe1 : Int32) (h0 : Heap) (n0 : Nat) (v : Option Value) (h : Heap) (L : List Loc) : Prop := ∃ t : Addr, ∃ k : ClassId, v = some (.ref t) ∧ Fr n0 L ∧ Keep h0 h [] ∧ Exa Z h t "[B" ∧ Arv Z h t k .byte (2 : Int32) [(.int xe0), (.int xe1)] (.int 0) ∧ h0.size ≤ t
theorem ef_rm_cb_2_16 (m : MethodId) (x0 : Addr) (x1 : Int32) (x2 : Int32) : entryFrame m #[(.ref x0), (.int x1), (.int x2)] 5 = mkF m 0 (la1 x0 x1 x2) [] := by first | rfl | (simp [entryFrame, mkF, argsToLocals, Value.category]; done)
theorem rm_cb_2_16 (l : Launch) (Z : State) (a0 : Array Value) (hw : HW Z a0) (ws : List Jvm.Cond) (d1 : Addr) (kd : ClassId) (xe0 : Int32) (xe1 : Int32) (h0 : Heap) (n0 : Nat) (Z0 : n0 ≤ h0.size) (Vd : Arv Z h0 d1 kd .byte (16 : Int32) [(.int xe0), (.int xe1), (.int 0), (.int 0), (.int 0), (.int 0), (.int 0), (.int 0), (.int 0), (.int 0), (.int 0), (.int 0), (.int 0), (.int 0), (.int 0), (.int 0)] (.int 0)) :
  OwnM l Z h0 (⟨"java/util/Arrays", "copyOfRangeByte", "([BII)[B"⟩ : MethodName) (Jvm.Cond.code (⟨"java/util/Arrays", "copyOfRangeByte", "([BII)[B"⟩ : MethodName) jdk_65_method_133_code 5 (some (.array .byte)) :: ws) (RM 1 1 2 18) #[(.ref d1), (.int 0), (.int 2)] (Qrm_cb_2_16 Z d1 kd xe0 xe1 h0 n0) := by
 refine MetFree.of_bodySF (plainFor_of_name pn_4) hisR ?_
 intro p e s m args below meth c s₁ Bd hml0 hP hK
 obtain ⟨rfl, hZ, hh⟩ := hP
 have hx := Bd.exec
 have hby := Bd.bytes
 have hml : c.maxLocals = 5 := hml0
 have hown : s.vm.findClass "java/util/Arrays" = some m.cls := findClass_of_methodNamed Bd.named
 have hnm := (name_of_methodNamed Bd.named Bd.method).1
 have X0 : Stand p l e (RM 1 1 2 18) s m #[(.ref d1), (.int 0), (.int 2)] below meth c s₁ [] 0 0 := Stand.of_body Bd
 have e0 : s₁.heap = h0 := by rw [← hh, Bd.state]; rfl
 have N0 := Fr.nil n0
 have pre0 : ∀ t, GO p e below s₁ (mkF m 0 (la1 d1 (0 : Int32) (2 : Int32)) []) t → GO p e below s₁ (entryFrame m #[(.ref d1), (.int 0), (.int 2)] 5) t := fun t k => castTop (ef_rm_cb_2_16 m d1 ((0 : Int32)) ((2 : Int32))) k
 have lt_Vd := ltA Vd.lt
 -- pc 2: Arrays.checkLength by rm_cl2
 obtain ⟨_, _, ⟨T269, L269, k269, n269⟩, -, X269, ⟨Lc269, hQ269, l269, y269, z269⟩, st269⟩ := Jvm.LawKit.callS X0 hx (y := (⟨"java/util/Arrays", "checkLength", "(II)V"⟩ : MethodName)) hown (mvT hZ (wd hw 130 rfl)) (mvT hZ (wd hw 131 rfl)) (mvT hZ (wd hw 125 rfl)) (mvT hZ (wd hw 132 rfl)) (by decide) (backOf (W := 0) (rm_cl2 l Z a0 hw []  h0 n0 (by omega)) hZ (wd hw 132 rfl) (wd hw 125 rfl) (by decide) (by decide)) (g := (mkF m 2 (la1 d1 (0 : Int32) (2 : Int32)) [(.int 2), (.int 0)])) rfl (by rw [hml]; rfl) (argsL := [(.int 0), (.int 2)]) (rest := []) (lenOf pd_11 rfl) rfl (wz rfl) (hb hby d23_2) (fun _ _ => ⟨rfl, e0, (by decide : 0 + 0 ≤ _), (by decide : 0 + 0 ≤ _)⟩)
 dsimp only [Pt.U, Pt.locs, Pt.cells, Pt.slots] at X269 l269 y269 z269 st269 hQ269
 subst l269 y269 z269
 obtain ⟨rfl, N269q, e269⟩ := hQ269
 have N269 := Fr.app N0 N269q
 obtain ⟨T270, h270, k270, X270, e270, E270, A270, Q270, st270⟩ := newPE (ad := "[B") X269 hx hZ (wd hw 15 rfl) e269 (g := (mkF m 10 (la2 d1 (0 : Int32) (2 : Int32) (2 : Int32)) [(.int 2)])) rfl (hb hby d23_10) rfl (by decide) (cap := 2) (by decide) (by decide) (by decide) (by decide) (by decide)
 obtain ⟨b270, g270⟩ : ∃ z, z = h0.size := ⟨_, rfl⟩
 rw [← g270] at A270 st270 Q270
 have sz270 : h0.size ≤ h270.size := E270.1
 have lt270 := ltA A270.lt
 have V270 : Arv Z h270 b270 k270 .byte (2 : Int32) [(.int 0), (.int 0)] (.int 0) := (Arv.new A270 (by decide)).pad (pad_rep [] (.int 0) 2)
 have f271 : Arv Z h270 d1 kd .byte (16 : Int32) [(.int xe0), (.int xe1), (.int 0), (.int 0), (.int 0), (.int 0), (.int 0), (.int 0), (.int 0), (.int 0), (.int 0), (.int 0), (.int 0), (.int 0), (.int 0), (.int 0)] (.int 0) := (Vd.ext E270)
 obtain ⟨cl272, Ar272, -, S272, M272, -, -⟩ := id f271
 -- pc 24: Math.min by rm_mi_16_2
 obtain ⟨_, _, ⟨T273, L273, k273, n273⟩, -, X273, ⟨Lc273, hQ273, l273, y273, z273⟩, st273⟩ := Jvm.LawKit.callS X270 hx (y := (⟨"java/lang/Math", "min", "(II)I"⟩ : MethodName)) hown (mvT hZ (wd hw 133 rfl)) (mvT hZ (wd hw 134 rfl)) (mvT hZ (wd hw 135 rfl)) (mvT hZ (wd hw 136 rfl)) (by decide) (backOf (W := 4) (rm_mi_16_2 l Z a0 hw []  h270 n0 (by omega)) hZ (wd hw 136 rfl) (wd hw 135 rfl) (by decide) (by decide)) (g := (mkF m 24 (la13 d1 (0 : Int32) (2 : Int32) (2 : Int32) b270) [(.int 2), (.int 16), (.int 0), (.ref b270), (.int 0), (.ref d1)])) rfl (by rw [hml]; rfl) (argsL := [(.int 16), (.int 2)]) (rest := [(.int 0), (.ref b270), (.int 0), (.ref d1)]) (lenOf pd_12 rfl) rfl (wz rfl) (hb hby d23_24) (fun _ _ => ⟨rfl, e270, (by decide : 1 + 0 ≤ _), (by decide : 2 + 0 ≤ _)⟩)
 dsimp only [Pt.U, Pt.locs, Pt.cells, Pt.slots] at X273 l273 y273 z273 st273 hQ273
 subst l273 y273 z273
 obtain ⟨rfl, N273q, e273⟩ := hQ273
 have N273 := Fr.app N269 N273q
 obtain ⟨T274, h274, L274, X274, e274, N274, K274, A274, st274⟩ := cpA X273 hx hZ hown (wd hw 137 rfl) (wd hw 91 rfl) (wd hw 89 rfl) (wd hw 90 rfl) e273 f271 V270 (us := [(.int xe0), (.int xe1)]) (Or.inl ⟨rfl, rfl⟩) (by decide) (by decide) (by decide) (by decide) (by decide) rfl (Nat.le_of_ble_eq_true rfl) N273 (by omega) (g := (mkF m 27 (la13 d1 (0 : Int32) (2 : Int32) (2 : Int32) b270) [(.int 2), (.int 0), (.ref b270), (.int 0), (.ref d1)])) rfl (by rw [hml]; rfl) rfl (hb hby d23_27) (by decide) (W := 0) (wz rfl) (by decide)
 have sz274 : h270.size ≤ h274.size := K274.1
 have V274 : Arv Z h274 b270 k270 .byte (2 : Int32) [(.int xe0), (.int xe1)] (.int 0) := A274
 have f275 : Exa Z h274 b270 "[B" := (Q270.keep K274)
 obtain ⟨fs, hr, hrun, hended, hW, hsame⟩ := X274.leave (v := some (.ref b270)) (fun h => by rw [Bd.returns] at h; cases h)
 refine ⟨_, _, pre0 _ ?_, hrun, hended, _, _, rfl, ?_, ⟨_, rfl⟩, hW, hsame.mono (by decide) (by decide)⟩
 ·show GO p e below s₁ (mkF m 0 (la1 d1 (0 : Int32) (2 : Int32)) []) _
  refine XS.iloadN X0.here hx rfl (hb hby d23_0) rfl ?_
  show GO p e below s₁ (mkF m 1 (la1 d1 (0 : Int32) (2 : Int32)) [(.int 0)]) _
  refine XS.iloadN X0.here hx rfl (hb hby d23_1) rfl ?_
  show GO p e below s₁ (mkF m 2 (la1 d1 (0 : Int32) (2 : Int32)) [(.int 2), (.int 0)]) _
  refine st269 _ ?_
  show GO p e below T269 (mkF m 5 (la1 d1 (0 : Int32) (2 : Int32)) []) _
  refine XS.iloadN X269.here hx rfl (hb hby d23_5) rfl ?_
  show GO p e below T269 (mkF m 6 (la1 d1 (0 : Int32) (2 : Int32)) [(.int 2)]) _
  refine XS.iloadN X269.here hx rfl (hb hby d23_6) rfl ?_
  show GO p e below T269 (mkF m 7 (la1 d1 (0 : Int32) (2 : Int32)) [(.int 0), (.int 2)]) _
  refine XS.isub X269.here hx rfl (hb hby d23_7) rfl ?_
  rw [show ((2 : Int32) - (0 : Int32)) = (2 : Int32) from by decide]
  show GO p e below T269 (mkF m 8 (la1 d1 (0 : Int32) (2 : Int32)) [(.int 2)]) _
  refine XS.istoreN X269.here hx rfl (hb hby d23_8) rfl (l' := (la2 d1 (0 : Int32) (2 : Int32) (2 : Int32))) rfl ?_
  show GO p e below T269 (mkF m 9 (la2 d1 (0 : Int32) (2 : Int32) (2 : Int32)) []) _
  refine XS.iloadN X269.here hx rfl (hb hby d23_9) rfl ?_
  show GO p e below T269 (mkF m 10 (la2 d1 (0 : Int32) (2 : Int32) (2 : Int32)) [(.int 2)]) _
  refine st270 _ ?_
  show GO p e below T270 (mkF m 12 (la2 d1 (0 : Int32) (2 : Int32) (2 : Int32)) [(.ref b270)]) _
  refine XS.astore X270.here hx rfl (hb hby d23_12) rfl rfl (l' := (la13 d1 (0 : Int32) (2 : Int32) (2 : Int32) b270)) rfl ?_
  show GO p e below T270 (mkF m 14 (la13 d1 (0 : Int32) (2 : Int32) (2 : Int32) b270) []) _
  refine XS.aloadN X270.here hx rfl (hb hby d23_14) rfl rfl ?_
  show GO p e below T270 (mkF m 15 (la13 d1 (0 : Int32) (2 : Int32) (2 : Int32) b270) [(.ref d1)]) _
  refine XS.iloadN X270.here hx rfl (hb hby d23_15) rfl ?_
  show GO p e below T270 (mkF m 16 (la13 d1 (0 : Int32) (2 : Int32) (2 : Int32) b270) [(.int 0), (.ref d1)]) _
  refine XS.aload X270.here hx rfl (hb hby d23_16) rfl rfl ?_
  show GO p e below T270 (mkF m 18 (la13 d1 (0 : Int32) (2 : Int32) (2 : Int32) b270) [(.ref b270), (.int 0), (.ref d1)]) _
  refine XS.iconst X270.here hx rfl (hb hby d23_18) ?_
  show GO p e below T270 (mkF m 19 (la13 d1 (0 : Int32) (2 : Int32) (2 : Int32) b270) [(.int 0), (.ref b270), (.int 0), (.ref d1)]) _
  refine XS.aloadN X270.here hx rfl (hb hby d23_19) rfl rfl ?_
  show GO p e below T270 (mkF m 20 (la13 d1 (0 : Int32) (2 : Int32) (2 : Int32) b270) [(.ref d1), (.int 0), (.ref b270), (.int 0), (.ref d1)]) _
  refine X270.arraylength hx (by rw [e270]; exact Ar272.1) (State.isArrayOf_alike hZ.alike Ar272.2.1) (g := (mkF m 20 (la13 d1 (0 : Int32) (2 : Int32) (2 : Int32) b270) [(.ref d1), (.int 0), (.ref b270), (.int 0), (.ref d1)])) rfl rfl (hb hby d23_20) _ ?_
  rw [len_of S272 M272]
  show GO p e below T270 (mkF m 21 (la13 d1 (0 : Int32) (2 : Int32) (2 : Int32) b270) [(.int 16), (.int 0), (.ref b270), (.int 0), (.ref d1)]) _
  refine XS.iloadN X270.here hx rfl (hb hby d23_21) rfl ?_
  show GO p e below T270 (mkF m 22 (la13 d1 (0 : Int32) (2 : Int32) (2 : Int32) b270) [(.int 0), (.int 16), (.int 0), (.ref b270), (.int 0), (.ref d1)]) _
  refine XS.isub X270.here hx rfl (hb hby d23_22) rfl ?_
  rw [show ((16 : Int32) - (0 : Int32)) = (16 : Int32) from by decide]
  show GO p e below T270 (mkF m 23 (la13 d1 (0 : Int32) (2 : Int32) (2 : Int32) b270) [(.int 16), (.int 0), (.ref b270), (.int 0), (.ref d1)]) _
  refine XS.iloadN X270.here hx rfl (hb hby d23_23) rfl ?_
  show GO p e below T270 (mkF m 24 (la13 d1 (0 : Int32) (2 : Int32) (2 : Int32) b270) [(.int 2), (.int 16), (.int 0), (.ref b270), (.int 0), (.ref d1)]) _
  refine st273 _ ?_
  show GO p e below T273 (mkF m 27 (la13 d1 (0 : Int32) (2 : Int32) (2 : Int32) b270) [(.int 2), (.int 0), (.ref b270), (.int 0), (.ref d1)]) _
  refine st274 _ ?_
  show GO p e below T274 (mkF m 30 (la13 d1 (0 : Int32) (2 : Int32) (2 : Int32) b270) []) _
  refine XS.aload X274.here hx rfl (hb hby d23_30) rfl rfl ?_
  show GO p e below T274 (mkF m 32 (la13 d1 (0 : Int32) (2 : Int32) (2 : Int32) b270) [(.ref b270)]) _
  exact retOut X274 hx Bd.returns rfl (Or.inr (Or.inr (Or.inr (Or.inr ⟨rfl, rfl, rfl⟩)))) (hb hby d23_32) hr
 ·show Qrm_cb_2_16 Z d1 kd xe0 xe1 h0 n0 _ T274.heap _
  rw [e274]
  exact ⟨b270, k270, rfl, N274, (((Keep.refl h0 []).ext E270).trans K274 (allS (P := fun x => x ∈ _ ∨ _) (Or.inr (by omega)) all0)), f275, V274, (by omega)⟩
def Qrm_cr_2_16 (Z : State) (d1 : Addr) (kd : ClassId) (xe0 : Int32) (xe1 : Int32) (h0 : Heap) (n0 : Nat) (v : Option Value) (h : Heap) (L : List Loc) : Prop := ∃ t : Addr, ∃ k : ClassId, v = some (.ref t) ∧ Fr n0 L ∧ Keep h0 h [] ∧ Exa Z h t "[B" ∧ Arv Z h t k .byte (2 : Int32) [(.int xe0), (.int xe1)] (.int 0) ∧ h0.size ≤ t
theorem ef_rm_cr_2_16 (m : MethodId) (x0 : Addr) (x1 : Int32) (x2 : Int32) : entryFrame m #[(.ref x0), (.int x1), (.int x2)] 3 = mkF m 0 (la9 x0 x1 x2) [] := by first | rfl | (simp [entryFrame, mkF, argsToLocals, Value.category]; done)
theorem rm_cr_2_16 (l : Launch) (Z : State) (a0 : Array Value) (hw : HW Z a0) (ws : List Jvm.Cond) (d1 : Addr) (kd : ClassId) (xe0 : Int32) (xe1 : Int32) (h0 : Heap) (n0 : Nat) (Z0 : n0 ≤ h0.size) (Vd : Arv Z h0 d1 kd .byte (16 : Int32) [(.int xe0), (.int xe1), (.int 0), (.int 0), (.int 0), (.int 0), (.int 0), (.int 0), (.int 0), (.int 0), (.int 0), (.int 0), (.int 0), (.int 0), (.int 0), (.int 0)] (.int 0)) :
  OwnM l Z h0 (⟨"java/util/Arrays", "copyOfRange", "([BII)[B"⟩ : MethodName) (Jvm.Cond.code (⟨"java/util/Arrays", "copyOfRange", "([BII)[B"⟩ : MethodName) jdk_65_method_132_code 3 (some (.array .byte)) :: ws) (RM 2 1 2 34) #[(.ref d1), (.int 0), (.int 2)] (Qrm_cr_2_16 Z d1 kd xe0 xe1 h0 n0) := by
 refine MetFree.of_bodySF (plainFor_of_name pn_4) hisR ?_
 intro p e s m args below meth c s₁ Bd hml0 hP hK
 obtain ⟨rfl, hZ, hh⟩ := hP
 have hx := Bd.exec
 have hby := Bd.bytes
 have hml : c.maxLocals = 3 := hml0
 have hown : s.vm.findClass "java/util/Arrays" = some m.cls := findClass_of_methodNamed Bd.named
 have hnm := (name_of_methodNamed Bd.named Bd.method).1
 have X0 : Stand p l e (RM 2 1 2 34) s m #[(.ref d1), (.int 0), (.int 2)] below meth c s₁ [] 0 0 := Stand.of_body Bd
 have e0 : s₁.heap = h0 := by rw [← hh, Bd.state]; rfl
 have N0 := Fr.nil n0
 have pre0 : ∀ t, GO p e below s₁ (mkF m 0 (la9 d1 (0 : Int32) (2 : Int32)) []) t → GO p e below s₁ (entryFrame m #[(.ref d1), (.int 0), (.int 2)] 3) t := fun t k => castTop (ef_rm_cr_2_16 m d1 ((0 : Int32)) ((2 : Int32))) k
 have lt_Vd := ltA Vd.lt
 obtain ⟨cl276, Ar276, -, S276, M276, -, -⟩ := id Vd
 -- pc 13: Arrays.copyOfRangeByte by rm_cb_2_16
 obtain ⟨_, _, ⟨T277, L277, k277, n277⟩, -, X277, ⟨Lc277, hQ277, l277, y277, z277⟩, st277⟩ := Jvm.LawKit.callS X0 hx (y := (⟨"java/util/Arrays", "copyOfRangeByte", "([BII)[B"⟩ : MethodName)) hown (mvT hZ (wd hw 127 rfl)) (mvT hZ (wd hw 128 rfl)) (mvT hZ (wd hw 125 rfl)) (mvT hZ (wd hw 129 rfl)) (by decide) (backOf (W := 0) (rm_cb_2_16 l Z a0 hw [] d1 kd xe0 xe1 h0 n0 (by omega) Vd) hZ (wd hw 129 rfl) (wd hw 125 rfl) (by decide) (by decide)) (g := (mkF m 13 (la9 d1 (0 : Int32) (2 : Int32)) [(.int 2), (.int 0), (.ref d1)])) rfl (by rw [hml]; rfl) (argsL := [(.ref d1), (.int 0), (.int 2)]) (rest := []) (lenOf pd_13 rfl) rfl (wz rfl) (hb hby d22_13) (fun _ _ => ⟨rfl, e0, (by decide : 0 + 1 ≤ _), (by decide : 0 + 2 ≤ _)⟩)
 dsimp only [Pt.U, Pt.locs, Pt.cells, Pt.slots] at X277 l277 y277 z277 st277 hQ277
 subst l277 y277 z277
 obtain ⟨h277, e277⟩ : ∃ z, T277.heap = z := ⟨_, rfl⟩
 rw [e277] at hQ277
 obtain ⟨t_277, k_277, rfl, N277q, K277, p277_0, p277_1, r277_0⟩ := hQ277
 have N277 := Fr.app N0 N277q
 have sz277 : h0.size ≤ h277.size := K277.1
 have lt277_0 := ltA p277_0.lt
 have lt277_1 := ltA p277_1.lt
 obtain ⟨fs, hr, hrun, hended, hW, hsame⟩ := X277.leave (v := some (.ref t_277)) (fun h => by rw [Bd.returns] at h; cases h)
 refine ⟨_, _, pre0 _ ?_, hrun, hended, _, _, rfl, ?_, ⟨_, rfl⟩, hW, hsame.mono (by decide) (by decide)⟩
 ·show GO p e below s₁ (mkF m 0 (la9 d1 (0 : Int32) (2 : Int32)) []) _
  refine XS.iloadN X0.here hx rfl (hb hby d22_0) rfl ?_
  show GO p e below s₁ (mkF m 1 (la9 d1 (0 : Int32) (2 : Int32)) [(.int 0)]) _
  refine XS.ifNo X0.here hx rfl (hb hby d22_1) rfl ((if0 _ _).trans (teq (rfl : (0 : Int32) = (0 : Int32))).2) ?_
  show GO p e below s₁ (mkF m 4 (la9 d1 (0 : Int32) (2 : Int32)) []) _
  refine XS.iloadN X0.here hx rfl (hb hby d22_4) rfl ?_
  show GO p e below s₁ (mkF m 5 (la9 d1 (0 : Int32) (2 : Int32)) [(.int 2)]) _
  refine XS.aloadN X0.here hx rfl (hb hby d22_5) rfl rfl ?_
  show GO p e below s₁ (mkF m 6 (la9 d1 (0 : Int32) (2 : Int32)) [(.ref d1), (.int 2)]) _
  refine X0.arraylength hx (by rw [e0]; exact Ar276.1) (State.isArrayOf_alike hZ.alike Ar276.2.1) (g := (mkF m 6 (la9 d1 (0 : Int32) (2 : Int32)) [(.ref d1), (.int 2)])) rfl rfl (hb hby d22_6) _ ?_
  rw [len_of S276 M276]
  show GO p e below s₁ (mkF m 7 (la9 d1 (0 : Int32) (2 : Int32)) [(.int 16), (.int 2)]) _
  refine XS.icmpNo X0.here hx rfl (hb hby d22_7) rfl (feq ((by decide) : ¬ ((2 : Int32) = (16 : Int32)))).1 ?_
  show GO p e below s₁ (mkF m 10 (la9 d1 (0 : Int32) (2 : Int32)) []) _
  refine XS.aloadN X0.here hx rfl (hb hby d22_10) rfl rfl ?_
  show GO p e below s₁ (mkF m 11 (la9 d1 (0 : Int32) (2 : Int32)) [(.ref d1)]) _
  refine XS.iloadN X0.here hx rfl (hb hby d22_11) rfl ?_
  show GO p e below s₁ (mkF m 12 (la9 d1 (0 : Int32) (2 : Int32)) [(.int 0), (.ref d1)]) _
  refine XS.iloadN X0.here hx rfl (hb hby d22_12) rfl ?_
  show GO p e below s₁ (mkF m 13 (la9 d1 (0 : Int32) (2 : Int32)) [(.int 2), (.int 0), (.ref d1)]) _
  refine st277 _ ?_
  show GO p e below T277 (mkF m 16 (la9 d1 (0 : Int32) (2 : Int32)) [(.ref t_277)]) _
  exact retOut X277 hx Bd.returns rfl (Or.inr (Or.inr (Or.inr (Or.inr ⟨rfl, rfl, rfl⟩)))) (hb hby d22_16) hr
 ·show Qrm_cr_2_16 Z d1 kd xe0 xe1 h0 n0 _ T277.heap _
  rw [e277]
  exact ⟨t_277, k_277, rfl, N277, ((Keep.refl h0 []).trans K277 all0), p277_0, p277_1, r277_0⟩
def Qrm_si2_2_16 (Z : State) (x1 : Addr) (u1 : Value) (u2 : Value) (a1 : Addr) (d1 : Addr) (kd : ClassId) (xe0 : Int32) (xe1 : Int32) (z0 : Int32) (h0 : Heap) (n0 : Nat) (v : Option Value) (h : Heap) (L : List Loc) : Prop := ∃ t : Addr, ∃ k : ClassId, v = none ∧ Fr n0 L ∧ Keep h0 h [x1] ∧ Exa Z h x1 kS1 ∧ Fld Z h x1 kS1 "coder" "B" (.int 0) ∧ Fld Z h x1 kS1 "value" "[B" (.ref t) ∧ Exa Z h t "[B" ∧ Arv Z h t k .byte (2 : Int32) [(.int xe0), (.int xe1)] (.int 0) ∧ h0.size ≤ t
theorem ef_rm_si2_2_16 (m : MethodId) (x0 : Addr) (x1 : Addr) : entryFrame m #[(.ref x0), (.ref x1), .null] 5 = mkF m 0 (la14 x0 x1) [] := by first | rfl | (simp [entryFrame, mkF, argsToLocals, Value.category]; done)
theorem rm_si2_2_16 (l : Launch) (Z : State) (a0 : Array Value) (hw : HW Z a0) (ws : List Jvm.Cond) (x1 : Addr) (u1 : Value) (u2 : Value) (a1 : Addr) (d1 : Addr) (kd : ClassId) (xe0 : Int32) (xe1 : Int32) (z0 : Int32) (h0 : Heap) (n0 : Nat) (Z0 : n0 ≤ h0.size) (O0 : Old Z n0 h0) (Es : Exa Z h0 x1 kS1) (Fv1 : Fld Z h0 x1 kS1 "value" "[B" u1) (Fc1 : Fld Z h0 x1 kS1 "coder" "B" u2) (Eb : Exa Z h0 a1 kS2) (Fbv : Fld Z h0 a1 kS0 "value" "[B" (.ref d1)) (Fbc : Fld Z h0 a1 kS0 "coder" "B" (.int 0)) (Fbn : Fld Z h0 a1 kS0 "count" "I" (.int 2)) (Vb : Arv Z h0 d1 kd .byte (16 : Int32) [(.int xe0), (.int xe1), (.int 0), (.int 0), (.int 0), (.int 0), (.int 0), (.int 0), (.int 0), (.int 0), (.int 0), (.int 0), (.int 0), (.int 0), (.int 0), (.int 0)] (.int 0)) (SZc : Sta Z Z.heap kS1 "COMPACT_STRINGS" "Z" (.int z0)) (hz0 : ¬ z0 = 0) (gx : n0 ≤ x1) :
  OwnM l Z h0 (⟨kS1, "<init>", "(Ljava/lang/AbstractStringBuilder;Ljava/lang/Void;)V"⟩ : MethodName) (Jvm.Cond.code (⟨kS1, "<init>", "(Ljava/lang/AbstractStringBuilder;Ljava/lang/Void;)V"⟩ : MethodName) jdk_42_method_150_code 5 none :: ws) (RM 3 1 2 49) #[(.ref x1), (.ref a1), .null] (Qrm_si2_2_16 Z x1 u1 u2 a1 d1 kd xe0 xe1 z0 h0 n0) := by
 refine MetFree.of_bodySF (plainFor_of_name pn_0) hisR ?_
 intro p e s m args below meth c s₁ Bd hml0 hP hK
 obtain ⟨rfl, hZ, hh⟩ := hP
 have hx := Bd.exec
 have hby := Bd.bytes
 have hml : c.maxLocals = 5 := hml0
 have hown : s.vm.findClass kS1 = some m.cls := findClass_of_methodNamed Bd.named
 have hnm := (name_of_methodNamed Bd.named Bd.method).1
 have X0 : Stand p l e (RM 3 1 2 49) s m #[(.ref x1), (.ref a1), .null] below meth c s₁ [] 0 0 := Stand.of_body Bd
 have e0 : s₁.heap = h0 := by rw [← hh, Bd.state]; rfl
 have N0 := Fr.nil n0
 have pre0 : ∀ t, GO p e below s₁ (mkF m 0 (la14 x1 a1) []) t → GO p e below s₁ (entryFrame m #[(.ref x1), (.ref a1), .null] 5) t := fun t k => castTop (ef_rm_si2_2_16 m x1 a1) k
 have lt_Es := ltA Es.lt
 have lt_Fv1 := ltA Fv1.lt
 have lt_Fc1 := ltA Fc1.lt
 have lt_Eb := ltA Eb.lt
 have lt_Fbv := ltA Fbv.lt
 have lt_Fbc := ltA Fbc.lt
 have lt_Fbn := ltA Fbn.lt
 have lt_Vb := ltA Vb.lt
 obtain ⟨T278, X278, e278, st278⟩ := initO X0 hx hZ hown (wd hw 11 rfl) (wd hw 12 rfl) (wd hw 13 rfl) e0 (g := (mkF m 1 (la14 x1 a1) [(.ref x1)])) rfl (by rw [hml]; rfl) rfl (hb hby d17_1) (by decide) (W := 0) (wz rfl) (by decide)
 -- pc 5: AbstractStringBuilder.getValue by rm_gv
 obtain ⟨cq279, kq279, q279a, q279b, q279c⟩ := isOf hZ e278 Eb
 obtain ⟨_, _, ⟨T279, L279, k279, n279⟩, -, X279, ⟨Lc279, hQ279, l279, y279, z279⟩, st279⟩ := X278.virtualBack hx (y := (⟨kS0, "getValue", "()[B"⟩ : MethodName)) (z := (⟨kS0, "getValue", "()[B"⟩ : MethodName)) hown (mvT hZ (wd hw 105 rfl)) (mvT hZ (wd hw 106 rfl)) (notFace_of_selects (args := #[]) (mvT hZ (wd hw 108 rfl))) (mvT hZ (wd hw 108 rfl)) (mvT hZ (wd hw 107 rfl)) (by decide) (backOf (W := 0) (rm_gv l Z a0 hw [] a1 d1 h0 n0 (by omega) Fbv) hZ (wd hw 109 rfl) (wd hw 36 rfl) (by decide) (by decide)) q279a q279c (g := (mkF m 5 (la14 x1 a1) [(.ref a1)])) rfl (by rw [hml]; rfl) (Steps.refl _) (argsL := []) (rest := []) (lenOf pd_14 rfl) rfl (wz rfl) (hb hby d17_5) (fun _ _ => ⟨rfl, e278, (by decide : 0 + 0 ≤ _), (by decide : 0 + 0 ≤ _)⟩)
 dsimp only [Pt.U, Pt.locs, Pt.cells, Pt.slots] at X279 l279 y279 z279 st279 hQ279
 subst l279 y279 z279
 obtain ⟨rfl, N279q, e279⟩ := hQ279
 have N279 := Fr.app N0 N279q
 -- pc 10: StringBuilder.length by rm_bl
 obtain ⟨cq280, kq280, q280a, q280b, q280c⟩ := isOf hZ e279 Eb
 obtain ⟨_, _, ⟨T280, L280, k280, n280⟩, -, X280, ⟨Lc280, hQ280, l280, y280, z280⟩, st280⟩ := X279.virtualBack hx (y := (⟨kS0, "length", "()I"⟩ : MethodName)) (z := (⟨kS2, "length", "()I"⟩ : MethodName)) hown (mvT hZ (wd hw 110 rfl)) (mvT hZ (wd hw 111 rfl)) (own_nf (args := #[]) (mvT hZ (wd hw 70 rfl)) rfl) (mvT hZ (wd hw 113 rfl)) (mvT hZ (wd hw 114 rfl)) (by decide) (backOf (W := 0) (rm_bl l Z a0 hw [] a1 (2 : Int32) h0 n0 (by omega) Eb Fbn) hZ (wd hw 115 rfl) (wd hw 28 rfl) (by decide) (by decide)) q280a q280c (g := (mkF m 10 (la15 x1 a1 d1) [(.ref a1)])) rfl (by rw [hml]; rfl) (Steps.refl _) (argsL := []) (rest := []) (lenOf pd_8 rfl) rfl (wz rfl) (hb hby d17_10) (fun _ _ => ⟨rfl, e279, (by decide : 0 + 0 ≤ _), (by decide : 0 + 0 ≤ _)⟩)
 dsimp only [Pt.U, Pt.locs, Pt.cells, Pt.slots] at X280 l280 y280 z280 st280 hQ280
 subst l280 y280 z280
 obtain ⟨rfl, N280q, e280⟩ := hQ280
 have N280 := Fr.app N279 N280q
 -- pc 16: AbstractStringBuilder.isLatin1 by rm_il
 obtain ⟨cq281, kq281, q281a, q281b, q281c⟩ := isOf hZ e280 Eb
 obtain ⟨_, _, ⟨T281, L281, k281, n281⟩, -, X281, ⟨Lc281, hQ281, l281, y281, z281⟩, st281⟩ := X280.virtualBack hx (y := (⟨kS0, "isLatin1", "()Z"⟩ : MethodName)) (z := (⟨kS0, "isLatin1", "()Z"⟩ : MethodName)) hown (mvT hZ (wd hw 118 rfl)) (mvT hZ (wd hw 119 rfl)) (notFace_of_selects (args := #[]) (mvT hZ (wd hw 121 rfl))) (mvT hZ (wd hw 121 rfl)) (mvT hZ (wd hw 120 rfl)) (by decide) (backOf (W := 0) (rm_il l Z a0 hw [] a1 z0 h0 n0 (by omega) O0 Fbc (by first | assumption | decide | omega) (by first | assumption | decide | omega)) hZ (wd hw 122 rfl) (wd hw 36 rfl) (by decide) (by decide)) q281a q281c (g := (mkF m 16 (la16 x1 a1 d1 (2 : Int32)) [(.ref a1)])) rfl (by rw [hml]; rfl) (Steps.refl _) (argsL := []) (rest := []) (lenOf pd_15 rfl) rfl (wz rfl) (hb hby d17_16) (fun _ _ => ⟨rfl, e280, (by decide : 0 + 0 ≤ _), (by decide : 0 + 0 ≤ _)⟩)
 dsimp only [Pt.U, Pt.locs, Pt.cells, Pt.slots] at X281 l281 y281 z281 st281 hQ281
 subst l281 y281 z281
 obtain ⟨rfl, N281q, e281⟩ := hQ281
 have N281 := Fr.app N280 N281q
 obtain ⟨T282, h282, X282, e282, W282, st282⟩ := putFN X281 hx hZ hown (wd hw 21 rfl) Via.refl e281 Fc1 Es (Or.inr ⟨(wd hw 17 rfl), rfl, hnm⟩) (wd hw 2 rfl) (ty := .byte) (v' := (.int 0)) (by decide) rfl rfl (g := (mkF m 24 (la16 x1 a1 d1 (2 : Int32)) [(.int 0), (.ref x1)])) rfl rfl (hb hby d17_24)
 have N282 := Fr.snoc X282 N281 (by omega : n0 ≤ x1)
 have ne283 : x1 ≠ a1 := ne_exa Es Eb (by decide)
 have ne284 : x1 ≠ d1 := Exa.neArv Es Vb (wd hw 2 rfl)
 have sz282 : h0.size ≤ h282.size := Nat.le_of_eq W282.size.symm
 have f282 : Fld Z h282 x1 kS1 "coder" "B" (.int 0) := Fc1.same W282
 -- pc 32: Arrays.copyOfRange by rm_cr_2_16
 have f286 : Arv Z h282 d1 kd .byte (16 : Int32) [(.int xe0), (.int xe1), (.int 0), (.int 0), (.int 0), (.int 0), (.int 0), (.int 0), (.int 0), (.int 0), (.int 0), (.int 0), (.int 0), (.int 0), (.int 0), (.int 0)] (.int 0) := (Vb.other W282 (Ne.symm ne284))
 obtain ⟨_, _, ⟨T285, L285, k285, n285⟩, -, X285, ⟨Lc285, hQ285, l285, y285, z285⟩, st285⟩ := Jvm.LawKit.callS X282 hx (y := (⟨"java/util/Arrays", "copyOfRange", "([BII)[B"⟩ : MethodName)) hown (mvT hZ (wd hw 123 rfl)) (mvT hZ (wd hw 124 rfl)) (mvT hZ (wd hw 125 rfl)) (mvT hZ (wd hw 126 rfl)) (by decide) (backOf (W := 1) (rm_cr_2_16 l Z a0 hw [] d1 kd xe0 xe1 h282 n0 (by omega) f286) hZ (wd hw 126 rfl) (wd hw 125 rfl) (by decide) (by decide)) (g := (mkF m 32 (la16 x1 a1 d1 (2 : Int32)) [(.int 2), (.int 0), (.ref d1), (.ref x1)])) rfl (by rw [hml]; rfl) (argsL := [(.ref d1), (.int 0), (.int 2)]) (rest := [(.ref x1)]) (lenOf pd_13 rfl) rfl (wz rfl) (hb hby d17_32) (fun _ _ => ⟨rfl, e282, (by decide : 0 + 1 ≤ _), (by decide : 0 + 2 ≤ _)⟩)
 dsimp only [Pt.U, Pt.locs, Pt.cells, Pt.slots] at X285 l285 y285 z285 st285 hQ285
 subst l285 y285 z285
 obtain ⟨h285, e285⟩ : ∃ z, T285.heap = z := ⟨_, rfl⟩
 rw [e285] at hQ285
 obtain ⟨t_285, k_285, rfl, N285q, K285, p285_0, p285_1, r285_0⟩ := hQ285
 have N285 := Fr.app N282 N285q
 have sz285 : h282.size ≤ h285.size := K285.1
 have lt285_0 := ltA p285_0.lt
 have lt285_1 := ltA p285_1.lt
 have f287 : Fld Z h285 x1 kS1 "value" "[B" u1 := ((Fv1.other W282 (Or.inr (slot_ne (Or.inr (wd hw 16 rfl)) (Or.inr (wd hw 17 rfl)) (by decide) (t := (.array .byte)) (t' := .byte) (by decide) (by decide)))).keep K285 nin0)
 have f288 : Exa Z h285 x1 kS1 := ((Es.wr W282).keep K285)
 obtain ⟨T289, h289, X289, e289, W289, st289⟩ := putF X285 hx hZ hown (host := "") (Or.inl (wd hw 20 rfl)) Via.refl e285 f287 f288 (Or.inr ⟨(wd hw 16 rfl), rfl, hnm⟩) (wd hw 2 rfl) (ty := (.array .byte)) (by decide) rfl rfl (g := (mkF m 35 (la16 x1 a1 d1 (2 : Int32)) [(.ref t_285), (.ref x1)])) rfl rfl (hb hby d17_35)
 have N289 := Fr.snoc X289 N285 (by omega : n0 ≤ x1)
 have ne290 : x1 ≠ t_285 := ne_exa f288 p285_0 (by decide)
 have sz289 : h285.size ≤ h289.size := Nat.le_of_eq W289.size.symm
 have f289 : Fld Z h289 x1 kS1 "value" "[B" (.ref t_285) := f287.same W289
 have f291 : Exa Z h289 x1 kS1 := (f288.wr W289)
 have f292 : Fld Z h289 x1 kS1 "coder" "B" (.int 0) := ((f282.keep K285 nin0).other W289 (Or.inr (slot_ne (Or.inr (wd hw 17 rfl)) (Or.inr (wd hw 16 rfl)) (by decide) (t := .byte) (t' := (.array .byte)) (by decide) (by decide))))
 have f293 : Exa Z h289 t_285 "[B" := (p285_0.wr W289)
 have f294 : Arv Z h289 t_285 k_285 .byte (2 : Int32) [(.int xe0), (.int xe1)] (.int 0) := (p285_1.other W289 (Ne.symm ne290))
 obtain ⟨fs, hr, hrun, hended, hW, hsame⟩ := X289.leave (v := none) (fun _ => rfl)
 refine ⟨_, _, pre0 _ ?_, hrun, hended, _, _, rfl, ?_, ⟨_, rfl⟩, hW, hsame.mono (by decide) (by decide)⟩
 ·show GO p e below s₁ (mkF m 0 (la14 x1 a1) []) _
  refine XS.aloadN X0.here hx rfl (hb hby d17_0) rfl rfl ?_
  show GO p e below s₁ (mkF m 1 (la14 x1 a1) [(.ref x1)]) _
  refine st278 _ ?_
  show GO p e below T278 (mkF m 4 (la14 x1 a1) []) _
  refine XS.aloadN X278.here hx rfl (hb hby d17_4) rfl rfl ?_
  show GO p e below T278 (mkF m 5 (la14 x1 a1) [(.ref a1)]) _
  refine st279.trans ?_
  show GO p e below T279 (mkF m 8 (la14 x1 a1) [(.ref d1)]) _
  refine XS.astoreN X279.here hx rfl (hb hby d17_8) rfl rfl (l' := (la15 x1 a1 d1)) rfl ?_
  show GO p e below T279 (mkF m 9 (la15 x1 a1 d1) []) _
  refine XS.aloadN X279.here hx rfl (hb hby d17_9) rfl rfl ?_
  show GO p e below T279 (mkF m 10 (la15 x1 a1 d1) [(.ref a1)]) _
  refine st280.trans ?_
  show GO p e below T280 (mkF m 13 (la15 x1 a1 d1) [(.int 2)]) _
  refine XS.istore X280.here hx rfl (hb hby d17_13) rfl (l' := (la16 x1 a1 d1 (2 : Int32))) rfl ?_
  show GO p e below T280 (mkF m 15 (la16 x1 a1 d1 (2 : Int32)) []) _
  refine XS.aloadN X280.here hx rfl (hb hby d17_15) rfl rfl ?_
  show GO p e below T280 (mkF m 16 (la16 x1 a1 d1 (2 : Int32)) [(.ref a1)]) _
  refine st281.trans ?_
  show GO p e below T281 (mkF m 19 (la16 x1 a1 d1 (2 : Int32)) [(.int 1)]) _
  refine XS.ifNo X281.here hx rfl (hb hby d17_19) rfl ((if0 _ _).trans (feq ((by decide) : ¬ ((1 : Int32) = (0 : Int32)))).1) ?_
  show GO p e below T281 (mkF m 22 (la16 x1 a1 d1 (2 : Int32)) []) _
  refine XS.aloadN X281.here hx rfl (hb hby d17_22) rfl rfl ?_
  show GO p e below T281 (mkF m 23 (la16 x1 a1 d1 (2 : Int32)) [(.ref x1)]) _
  refine XS.iconst X281.here hx rfl (hb hby d17_23) ?_
  show GO p e below T281 (mkF m 24 (la16 x1 a1 d1 (2 : Int32)) [(.int 0), (.ref x1)]) _
  refine st282 _ ?_
  show GO p e below T282 (mkF m 27 (la16 x1 a1 d1 (2 : Int32)) []) _
  refine XS.aloadN X282.here hx rfl (hb hby d17_27) rfl rfl ?_
  show GO p e below T282 (mkF m 28 (la16 x1 a1 d1 (2 : Int32)) [(.ref x1)]) _
  refine XS.aloadN X282.here hx rfl (hb hby d17_28) rfl rfl ?_
  show GO p e below T282 (mkF m 29 (la16 x1 a1 d1 (2 : Int32)) [(.ref d1), (.ref x1)]) _
  refine XS.iconst X282.here hx rfl (hb hby d17_29) ?_
  show GO p e below T282 (mkF m 30 (la16 x1 a1 d1 (2 : Int32)) [(.int 0), (.ref d1), (.ref x1)]) _
  refine XS.iload X282.here hx rfl (hb hby d17_30) rfl ?_
  show GO p e below T282 (mkF m 32 (la16 x1 a1 d1 (2 : Int32)) [(.int 2), (.int 0), (.ref d1), (.ref x1)]) _
  refine st285 _ ?_
  show GO p e below T285 (mkF m 35 (la16 x1 a1 d1 (2 : Int32)) [(.ref t_285), (.ref x1)]) _
  refine st289 _ ?_
  show GO p e below T289 (mkF m 38 (la16 x1 a1 d1 (2 : Int32)) []) _
  refine XS.goto X289.here hx rfl (pc0 := 38) (pc' := 97) rfl (hb hby d17_38) (by decide) (by decide) ?_
  show GO p e below T289 (mkF m 97 (la16 x1 a1 d1 (2 : Int32)) []) _
  exact X289.returnOut hx Bd.returns (hb hby d17_97) hr
 ·show Qrm_si2_2_16 Z x1 u1 u2 a1 d1 kd xe0 xe1 z0 h0 n0 _ T289.heap _
  rw [e289]
  exact ⟨t_285, k_285, rfl, N289, ((((Keep.refl h0 [x1]).wr W282 (Or.inl (List.mem_of_getElem? (i := 0) rfl))).trans K285 all0).wr W289 (Or.inl (List.mem_of_getElem? (i := 0) rfl))), f291, f292, f289, f293, f294, (by omega)⟩
def Qrm_si1_2_16 (Z : State) (x1 : Addr) (u1 : Value) (u2 : Value) (a1 : Addr) (d1 : Addr) (kd : ClassId) (xe0 : Int32) (xe1 : Int32) (z0 : Int32) (h0 : Heap) (n0 : Nat) (v : Option Value) (h : Heap) (L : List Loc) : Prop := ∃ t : Addr, ∃ k : ClassId, v = none ∧ Fr n0 L ∧ Keep h0 h [x1] ∧ Exa Z h x1 kS1 ∧ Fld Z h x1 kS1 "coder" "B" (.int 0) ∧ Fld Z h x1 kS1 "value" "[B" (.ref t) ∧ Exa Z h t "[B" ∧ Arv Z h t k .byte (2 : Int32) [(.int xe0), (.int xe1)] (.int 0) ∧ h0.size ≤ t
theorem ef_rm_si1_2_16 (m : MethodId) (x0 : Addr) (x1 : Addr) : entryFrame m #[(.ref x0), (.ref x1)] 2 = mkF m 0 #[.val (.ref x0), .val (.ref x1)] [] := by first | rfl | (simp [entryFrame, mkF, argsToLocals, Value.category]; done)
theorem rm_si1_2_16 (l : Launch) (Z : State) (a0 : Array Value) (hw : HW Z a0) (ws : List Jvm.Cond) (x1 : Addr) (u1 : Value) (u2 : Value) (a1 : Addr) (d1 : Addr) (kd : ClassId) (xe0 : Int32) (xe1 : Int32) (z0 : Int32) (h0 : Heap) (n0 : Nat) (Z0 : n0 ≤ h0.size) (O0 : Old Z n0 h0) (Es : Exa Z h0 x1 kS1) (Fv1 : Fld Z h0 x1 kS1 "value" "[B" u1) (Fc1 : Fld Z h0 x1 kS1 "coder" "B" u2) (Eb : Exa Z h0 a1 kS2) (Fbv : Fld Z h0 a1 kS0 "value" "[B" (.ref d1)) (Fbc : Fld Z h0 a1 kS0 "coder" "B" (.int 0)) (Fbn : Fld Z h0 a1 kS0 "count" "I" (.int 2)) (Vb : Arv Z h0 d1 kd .byte (16 : Int32) [(.int xe0), (.int xe1), (.int 0), (.int 0), (.int 0), (.int 0), (.int 0), (.int 0), (.int 0), (.int 0), (.int 0), (.int 0), (.int 0), (.int 0), (.int 0), (.int 0)] (.int 0)) (SZc : Sta Z Z.heap kS1 "COMPACT_STRINGS" "Z" (.int z0)) (hz0 : ¬ z0 = 0) (gx : n0 ≤ x1) :
  OwnM l Z h0 (⟨kS1, "<init>", "(Ljava/lang/StringBuilder;)V"⟩ : MethodName) (Jvm.Cond.code (⟨kS1, "<init>", "(Ljava/lang/StringBuilder;)V"⟩ : MethodName) jdk_42_method_53_code 2 none :: ws) (RM 4 1 2 65) #[(.ref x1), (.ref a1)] (Qrm_si1_2_16 Z x1 u1 u2 a1 d1 kd xe0 xe1 z0 h0 n0) := by
 refine MetFree.of_bodySF (plainFor_of_name pn_0) hisR ?_
 intro p e s m args below meth c s₁ Bd hml0 hP hK
 obtain ⟨rfl, hZ, hh⟩ := hP
 have hx := Bd.exec
 have hby := Bd.bytes
 have hml : c.maxLocals = 2 := hml0
 have hown : s.vm.findClass kS1 = some m.cls := findClass_of_methodNamed Bd.named
 have hnm := (name_of_methodNamed Bd.named Bd.method).1
 have X0 : Stand p l e (RM 4 1 2 65) s m #[(.ref x1), (.ref a1)] below meth c s₁ [] 0 0 := Stand.of_body Bd
 have e0 : s₁.heap = h0 := by rw [← hh, Bd.state]; rfl
 have N0 := Fr.nil n0
 have pre0 : ∀ t, GO p e below s₁ (mkF m 0 #[.val (.ref x1), .val (.ref a1)] []) t → GO p e below s₁ (entryFrame m #[(.ref x1), (.ref a1)] 2) t := fun t k => castTop (ef_rm_si1_2_16 m x1 a1) k
 have lt_Es := ltA Es.lt
 have lt_Fv1 := ltA Fv1.lt
 have lt_Fc1 := ltA Fc1.lt
 have lt_Eb := ltA Eb.lt
 have lt_Fbv := ltA Fbv.lt
 have lt_Fbc := ltA Fbc.lt
 have lt_Fbn := ltA Fbn.lt
 have lt_Vb := ltA Vb.lt
 -- pc 3: String.<init> by rm_si2_2_16
 obtain ⟨_, _, ⟨T295, L295, k295, n295⟩, -, X295, ⟨Lc295, hQ295, l295, y295, z295⟩, st295⟩ := X0.specialBack hx (y := (⟨kS1, "<init>", "(Ljava/lang/AbstractStringBuilder;Ljava/lang/Void;)V"⟩ : MethodName)) rfl hown (mvT hZ (wd hw 102 rfl)) (mvT hZ (wd hw 103 rfl)) (mvT hZ (wd hw 104 rfl)) (by decide) (backOf (W := 0) (rm_si2_2_16 l Z a0 hw [] x1 u1 u2 a1 d1 kd xe0 xe1 z0 h0 n0 (by omega) O0 Es Fv1 Fc1 Eb Fbv Fbc Fbn Vb (by first | assumption | decide | omega) (by first | assumption | decide | omega) (by first | assumption | decide | omega)) hZ (wd hw 104 rfl) (wd hw 3 rfl) (by decide) (by decide)) (g := (mkF m 3 #[.val (.ref x1), .val (.ref a1)] [.null, (.ref a1), (.ref x1)])) rfl (by rw [hml]; rfl) (Steps.refl _) (a := x1) (argsL := [(.ref a1), .null]) (rest := []) (lenOf pd_16 rfl) rfl (wz rfl) (hb hby d16_3) (fun _ _ => ⟨rfl, e0, (by decide : 0 + 1 ≤ _), (by decide : 0 + 2 ≤ _)⟩)
 dsimp only [Pt.U, Pt.locs, Pt.cells, Pt.slots] at X295 l295 y295 z295 st295 hQ295
 subst l295 y295 z295
 obtain ⟨h295, e295⟩ : ∃ z, T295.heap = z := ⟨_, rfl⟩
 rw [e295] at hQ295
 obtain ⟨t_295, k_295, rfl, N295q, K295, p295_0, p295_1, p295_2, p295_3, p295_4, r295_0⟩ := hQ295
 have N295 := Fr.app N0 N295q
 have sz295 : h0.size ≤ h295.size := K295.1
 have lt295_0 := ltA p295_0.lt
 have lt295_3 := ltA p295_3.lt
 have lt295_4 := ltA p295_4.lt
 obtain ⟨fs, hr, hrun, hended, hW, hsame⟩ := X295.leave (v := none) (fun _ => rfl)
 refine ⟨_, _, pre0 _ ?_, hrun, hended, _, _, rfl, ?_, ⟨_, rfl⟩, hW, hsame.mono (by decide) (by decide)⟩
 ·show GO p e below s₁ (mkF m 0 #[.val (.ref x1), .val (.ref a1)] []) _
  refine XS.aloadN X0.here hx rfl (hb hby d16_0) rfl rfl ?_
  show GO p e below s₁ (mkF m 1 #[.val (.ref x1), .val (.ref a1)] [(.ref x1)]) _
  refine XS.aloadN X0.here hx rfl (hb hby d16_1) rfl rfl ?_
  show GO p e below s₁ (mkF m 2 #[.val (.ref x1), .val (.ref a1)] [(.ref a1), (.ref x1)]) _
  refine XS.aconstNull X0.here hx rfl (hb hby d16_2) ?_
  show GO p e below s₁ (mkF m 3 #[.val (.ref x1), .val (.ref a1)] [.null, (.ref a1), (.ref x1)]) _
  refine st295.trans ?_
  show GO p e below T295 (mkF m 6 #[.val (.ref x1), .val (.ref a1)] []) _
  exact X295.returnOut hx Bd.returns (hb hby d16_6) hr
 ·show Qrm_si1_2_16 Z x1 u1 u2 a1 d1 kd xe0 xe1 z0 h0 n0 _ T295.heap _
  rw [e295]
  exact ⟨t_295, k_295, rfl, N295, ((Keep.refl h0 [x1]).trans K295 (allS (P := fun x => x ∈ _ ∨ _) (Or.inl (List.mem_of_getElem? (i := 0) rfl)) all0)), p295_0, p295_1, p295_2, p295_3, p295_4, r295_0⟩
def Qrm_ts_2_16 (Z : State) (a1 : Addr) (d1 : Addr) (kd : ClassId) (xe0 : Int32) (xe1 : Int32) (z0 : Int32) (h0 : Heap) (n0 : Nat) (v : Option Value) (h : Heap) (L : List Loc) : Prop := ∃ x : Addr, ∃ t : Addr, ∃ k : ClassId, v = some (.ref x) ∧ Fr n0 L ∧ Keep h0 h [] ∧ Exa Z h x kS1 ∧ Fld Z h x kS1 "coder" "B" (.int 0) ∧ Fld Z h x kS1 "value" "[B" (.ref t) ∧ Exa Z h t "[B" ∧ Arv Z h t k .byte (2 : Int32) [(.int xe0), (.int xe1)] (.int 0) ∧ h0.size ≤ x ∧ h0.size ≤ t
theorem ef_rm_ts_2_16 (m : MethodId) (x0 : Addr) : entryFrame m #[(.ref x0)] 1 = mkF m 0 #[.val (.ref x0)] [] := by first | rfl | (simp [entryFrame, mkF, argsToLocals, Value.category]; done)
theorem rm_ts_2_16 (l : Launch) (Z : State) (a0 : Array Value) (hw : HW Z a0) (ws : List Jvm.Cond) (a1 : Addr) (d1 : Addr) (kd : ClassId) (xe0 : Int32) (xe1 : Int32) (z0 : Int32) (h0 : Heap) (n0 : Nat) (Z0 : n0 ≤ h0.size) (O0 : Old Z n0 h0) (Eb : Exa Z h0 a1 kS2) (Fbv : Fld Z h0 a1 kS0 "value" "[B" (.ref d1)) (Fbc : Fld Z h0 a1 kS0 "coder" "B" (.int 0)) (Fbn : Fld Z h0 a1 kS0 "count" "I" (.int 2)) (Vb : Arv Z h0 d1 kd .byte (16 : Int32) [(.int xe0), (.int xe1), (.int 0), (.int 0), (.int 0), (.int 0), (.int 0), (.int 0), (.int 0), (.int 0), (.int 0), (.int 0), (.int 0), (.int 0), (.int 0), (.int 0)] (.int 0)) (SZc : Sta Z Z.heap kS1 "COMPACT_STRINGS" "Z" (.int z0)) (hz0 : ¬ z0 = 0) :
  OwnM l Z h0 (⟨kS2, "toString", "()Ljava/lang/String;"⟩ : MethodName) (Jvm.Cond.code (⟨kS2, "toString", "()Ljava/lang/String;"⟩ : MethodName) jdk_67_method_42_code 1 (some (.object kS1)) :: ws) (RM 5 2 6 79) #[(.ref a1)] (Qrm_ts_2_16 Z a1 d1 kd xe0 xe1 z0 h0 n0) := by
 refine MetFree.of_bodySF (plainFor_of_name pn_3) hisR ?_
 intro p e s m args below meth c s₁ Bd hml0 hP hK
 obtain ⟨rfl, hZ, hh⟩ := hP
 have hx := Bd.exec
 have hby := Bd.bytes
 have hml : c.maxLocals = 1 := hml0
 have hown : s.vm.findClass kS2 = some m.cls := findClass_of_methodNamed Bd.named
 have hnm := (name_of_methodNamed Bd.named Bd.method).1
 have X0 : Stand p l e (RM 5 2 6 79) s m #[(.ref a1)] below meth c s₁ [] 0 0 := Stand.of_body Bd
 have e0 : s₁.heap = h0 := by rw [← hh, Bd.state]; rfl
 have N0 := Fr.nil n0
 have pre0 : ∀ t, GO p e below s₁ (mkF m 0 #[.val (.ref a1)] []) t → GO p e below s₁ (entryFrame m #[(.ref a1)] 1) t := fun t k => castTop (ef_rm_ts_2_16 m a1) k
 have lt_Eb := ltA Eb.lt
 have lt_Fbv := ltA Fbv.lt
 have lt_Fbc := ltA Fbc.lt
 have lt_Fbn := ltA Fbn.lt
 have lt_Vb := ltA Vb.lt
 obtain ⟨T296, h296, X296, e296, E296, A296, D296, U296, st296⟩ := newO X0 hx hZ hown (wd hw 98 rfl) (wd hw 2 rfl) (wd hw 3 rfl) e0 (g := (mkF m 0 #[.val (.ref a1)] [])) rfl (hb hby d15_0) (by decide) (by decide)
 obtain ⟨b296, g296⟩ : ∃ z, z = h0.size := ⟨_, rfl⟩
 rw [← g296] at A296 D296 U296 st296
 have sz296 : h0.size ≤ h296.size := E296.1
 have lt296 := ltA A296.lt
 have f297 : Fld Z h296 b296 kS1 "value" "[B" .null := D296 (Or.inr (wd hw 16 rfl)) (ty := (.array .byte)) (by decide)
 have f298 : Fld Z h296 b296 kS1 "coder" "B" (.int 0) := D296 (Or.inr (wd hw 17 rfl)) (ty := .byte) (by decide)
 -- pc 5: String.<init> by rm_si1_2_16
 have f300 : Old Z n0 h296 := (O0.ext E296)
 have f301 : Exa Z h296 a1 kS2 := (Eb.ext E296)
 have f302 : Fld Z h296 a1 kS0 "value" "[B" (.ref d1) := (Fbv.ext E296)
 have f303 : Fld Z h296 a1 kS0 "coder" "B" (.int 0) := (Fbc.ext E296)
 have f304 : Fld Z h296 a1 kS0 "count" "I" (.int 2) := (Fbn.ext E296)
 have f305 : Arv Z h296 d1 kd .byte (16 : Int32) [(.int xe0), (.int xe1), (.int 0), (.int 0), (.int 0), (.int 0), (.int 0), (.int 0), (.int 0), (.int 0), (.int 0), (.int 0), (.int 0), (.int 0), (.int 0), (.int 0)] (.int 0) := (Vb.ext E296)
 obtain ⟨_, _, ⟨T299, L299, k299, n299⟩, -, X299, ⟨Lc299, hQ299, l299, y299, z299⟩, st299⟩ := X296.specialBack hx (y := (⟨kS1, "<init>", "(Ljava/lang/StringBuilder;)V"⟩ : MethodName)) rfl hown (mvT hZ (wd hw 99 rfl)) (mvT hZ (wd hw 100 rfl)) (mvT hZ (wd hw 101 rfl)) (by decide) (backOf (W := 1) (rm_si1_2_16 l Z a0 hw [] b296 .null (.int 0) a1 d1 kd xe0 xe1 z0 h296 n0 (by omega) f300 A296 f297 f298 f301 f302 f303 f304 f305 (by first | assumption | decide | omega) (by first | assumption | decide | omega) (by first | assumption | decide | omega)) hZ (wd hw 101 rfl) (wd hw 3 rfl) (by decide) (by decide)) (g := (mkF m 5 #[.val (.ref a1)] [(.ref a1), (.ref b296), (.ref b296)])) rfl (by rw [hml]; rfl) (Steps.refl _) (a := b296) (argsL := [(.ref a1)]) (rest := [(.ref b296)]) (lenOf pd_17 rfl) rfl (wz rfl) (hb hby d15_5) (fun _ _ => ⟨rfl, e296, (by decide : 1 + 1 ≤ _), (by decide : 4 + 2 ≤ _)⟩)
 dsimp only [Pt.U, Pt.locs, Pt.cells, Pt.slots] at X299 l299 y299 z299 st299 hQ299
 subst l299 y299 z299
 obtain ⟨h299, e299⟩ : ∃ z, T299.heap = z := ⟨_, rfl⟩
 rw [e299] at hQ299
 obtain ⟨t_299, k_299, rfl, N299q, K299, p299_0, p299_1, p299_2, p299_3, p299_4, r299_0⟩ := hQ299
 have N299 := Fr.app N0 N299q
 have sz299 : h296.size ≤ h299.size := K299.1
 have lt299_0 := ltA p299_0.lt
 have lt299_3 := ltA p299_3.lt
 have lt299_4 := ltA p299_4.lt
 obtain ⟨fs, hr, hrun, hended, hW, hsame⟩ := X299.leave (v := some (.ref b296)) (fun h => by rw [Bd.returns] at h; cases h)
 refine ⟨_, _, pre0 _ ?_, hrun, hended, _, _, rfl, ?_, ⟨_, rfl⟩, hW, hsame.mono (by decide) (by decide)⟩
 ·show GO p e below s₁ (mkF m 0 #[.val (.ref a1)] []) _
  refine st296 _ ?_
  show GO p e below T296 (mkF m 3 #[.val (.ref a1)] [(.ref b296)]) _
  refine XS.dup X296.here hx rfl (hb hby d15_3) rfl rfl ?_
  show GO p e below T296 (mkF m 4 #[.val (.ref a1)] [(.ref b296), (.ref b296)]) _
  refine XS.aloadN X296.here hx rfl (hb hby d15_4) rfl rfl ?_
  show GO p e below T296 (mkF m 5 #[.val (.ref a1)] [(.ref a1), (.ref b296), (.ref b296)]) _
  refine st299.trans ?_
  show GO p e below T299 (mkF m 8 #[.val (.ref a1)] [(.ref b296)]) _
  exact retOut X299 hx Bd.returns rfl (Or.inr (Or.inr (Or.inr (Or.inr ⟨rfl, rfl, rfl⟩)))) (hb hby d15_8) hr
 ·show Qrm_ts_2_16 Z a1 d1 kd xe0 xe1 z0 h0 n0 _ T299.heap _
  rw [e299]
  exact ⟨b296, t_299, k_299, rfl, N299, (((Keep.refl h0 []).ext E296).trans K299 (allS (P := fun x => x ∈ _ ∨ _) (Or.inr (by omega)) all0)), p299_0, p299_1, p299_2, p299_3, p299_4, (by omega), (by omega)⟩
def Qrm_line1 (Z : State) (q0 : Addr) (q1 : Addr) (q2 : Addr) (x1 : Addr) (t1 : Addr) (k1 : ClassId) (xs0 : Int32) (z0 : Int32) (h0 : Heap) (n0 : Nat) (v : Option Value) (h : Heap) (L : List Loc) : Prop := ∃ t : Addr, ∃ k : ClassId, v = some (.ref t) ∧ Fr n0 L ∧ Keep h0 h [] ∧ Arv Z h t k .byte (2 : Int32) [(.int xs0), (.int 10)] (.int 0)
theorem ef_rm_line1 (m : MethodId) (x0 : Addr) : entryFrame m #[(.ref x0)] 1 = mkF m 0 #[.val (.ref x0)] [] := by first | rfl | (simp [entryFrame, mkF, argsToLocals, Value.category]; done)
theorem rm_line1 (l : Launch) (Z : State) (a0 : Array Value) (hw : HW Z a0) (ws : List Jvm.Cond) (q0 : Addr) (q1 : Addr) (q2 : Addr) (x1 : Addr) (t1 : Addr) (k1 : ClassId) (xs0 : Int32) (z0 : Int32) (h0 : Heap) (n0 : Nat) (Z0 : n0 ≤ h0.size) (O0 : Old Z n0 h0) (Esx1 : Exa Z h0 x1 kS1) (Fcx1 : Fld Z h0 x1 kS1 "coder" "B" (.int 0)) (Fvx1 : Fld Z h0 x1 kS1 "value" "[B" (.ref t1)) (Vsx1 : Arv Z h0 t1 k1 .byte (1 : Int32) [(.int xs0)] (.int 0)) (SZc : Sta Z Z.heap kS1 "COMPACT_STRINGS" "Z" (.int z0)) (hz0 : ¬ z0 = 0) (HC : OwnC Z q0 q1 q2) (hg0 : ¬ xs0 < 0) :
  OwnW l Z h0 (⟨"com/example/holdtube/holdtube/Seal", "line", "(Ljava/lang/String;)[B"⟩ : MethodName) (Jvm.Cond.code (⟨"com/example/holdtube/holdtube/Seal", "line", "(Ljava/lang/String;)[B"⟩ : MethodName) prog_22_method_4_code 1 (some (.array .byte)) :: ws) (RM 6 7 36 91) #[(.ref x1)] [] (Qrm_line1 Z q0 q1 q2 x1 t1 k1 xs0 z0 h0 n0) := by
 refine MetFree.of_bodySF (plainFor_of_name pn_5) hisR ?_
 intro p e s m args below meth c s₁ Bd hml0 hP hK
 obtain ⟨rfl, hZ, hh, H0, sf⟩ := hP
 have hx := Bd.exec
 have hby := Bd.bytes
 have hml : c.maxLocals = 1 := hml0
 have hown : s.vm.findClass "com/example/holdtube/holdtube/Seal" = some m.cls := findClass_of_methodNamed Bd.named
 have hnm := (name_of_methodNamed Bd.named Bd.method).1
 have X0 : Stand p l e (RM 6 7 36 91) (s.setVm s.vm) m #[(.ref x1)] below meth c s₁ [] 0 0 := Stand.of_body Bd
 have hS0 : s.Since s.vm h0.size := (State.WarmedH.refl s).since _
 have C0 : CHr Z EL1 s.vm h0 s.vm h0 := CHr.refl H0
 have e0 : s₁.heap = h0 := by rw [← hh, Bd.state]; rfl
 have N0 := Fr.nil n0
 have pre0 : ∀ t, GO p e below s₁ (mkF m 0 #[.val (.ref x1)] []) t → GO p e below s₁ (entryFrame m #[(.ref x1)] 1) t := fun t k => castTop (ef_rm_line1 m x1) k
 have lt_Esx1 := ltA Esx1.lt
 have lt_Fcx1 := ltA Fcx1.lt
 have lt_Fvx1 := ltA Fvx1.lt
 have lt_Vsx1 := ltA Vsx1.lt
 obtain ⟨SZq0, SZqa, SZq1, SZq2, nq1, nq2⟩ := HC
 obtain ⟨T306, h306, X306, e306, E306, A306, D306, U306, st306⟩ := newO X0 hx hZ hown (wd hw 26 rfl) (wd hw 27 rfl) (wd hw 28 rfl) e0 (g := (mkF m 0 #[.val (.ref x1)] [])) rfl (hb hby d4_0) (by decide) (by decide)
 obtain ⟨b306, g306⟩ : ∃ z, z = h0.size := ⟨_, rfl⟩
 rw [← g306] at A306 D306 U306 st306
 have C307 : CHr Z EL1 s.vm h0 s.vm h306 := C0.trans (CHr.ext E306 C0.1)
 have sz306 : h0.size ≤ h306.size := E306.1
 have lt306 := ltA A306.lt
 have f308 : Fld Z h306 b306 kS0 "value" "[B" .null := D306 (Or.inl (wd hw 41 rfl)) (ty := (.array .byte)) (by decide)
 have f309 : Fld Z h306 b306 kS0 "coder" "B" (.int 0) := D306 (Or.inl (wd hw 43 rfl)) (ty := .byte) (by decide)
 have f310 : Fld Z h306 b306 kS0 "count" "I" (.int 0) := D306 (Or.inl (wd hw 66 rfl)) (ty := .int) (by decide)
 -- pc 4: StringBuilder.<init> by rm_bi
 have f312 : Old Z n0 h306 := (O0.ext E306)
 obtain ⟨_, _, ⟨T311, L311, k311, n311⟩, -, X311, ⟨Lc311, hQ311, l311, y311, z311⟩, st311⟩ := X306.specialBack hx (y := (⟨kS2, "<init>", "()V"⟩ : MethodName)) rfl hown (mvT hZ (wd hw 29 rfl)) (mvT hZ (wd hw 30 rfl)) (mvT hZ (wd hw 31 rfl)) (by decide) (backOf (W := 1) (rm_bi l Z a0 hw [] b306 .null (.int 0) z0 h306 n0 (by omega) f312 A306 f308 f309 f310 (by first | assumption | decide | omega) (by first | assumption | decide | omega) (by first | assumption | decide | omega)) hZ (wd hw 31 rfl) (wd hw 28 rfl) (by decide) (by decide)) (g := (mkF m 4 #[.val (.ref x1)] [(.ref b306), (.ref b306)])) rfl (by rw [hml]; rfl) (Steps.refl _) (a := b306) (argsL := []) (rest := [(.ref b306)]) (lenOf pd_18 rfl) rfl (wz rfl) (hb hby d4_4) (fun _ _ => ⟨rfl, e306, (by decide : 1 + 1 ≤ _), (by decide : 4 + 16 ≤ _)⟩)
 dsimp only [Pt.U, Pt.locs, Pt.cells, Pt.slots] at X311 l311 y311 z311 st311 hQ311
 subst l311 y311 z311
 obtain ⟨h311, e311⟩ : ∃ z, T311.heap = z := ⟨_, rfl⟩
 rw [e311] at hQ311
 obtain ⟨d_311, k_311, rfl, N311q, K311, p311_0, p311_1, p311_2, p311_3, p311_4, r311_0⟩ := hQ311
 have N311 := Fr.app N0 N311q
 have f313 : Exa Z h306 x1 kS1 := (Esx1.ext E306)
 have ne314 : b306 ≠ x1 := ne_exa A306 f313 (by decide)
 have f315 : Arv Z h306 t1 k1 .byte (1 : Int32) [(.int xs0)] (.int 0) := (Vsx1.ext E306)
 have ne316 : b306 ≠ t1 := Exa.neArv A306 f315 (wd hw 27 rfl)
 have C317 : CHr Z EL1 s.vm h0 s.vm h311 := C307.trans (CHr.keep K311 (sfS (Safe.exa hZ.alike A306 (by decide) (by decide)) sf0) C307.1)
 have sz311 : h306.size ≤ h311.size := K311.1
 have lt311_0 := ltA p311_0.lt
 have lt311_4 := ltA p311_4.lt
 have B311_d_311 : Safe Z EL1 s.vm h311 d_311 := Safe.keep K311 (sfS (Safe.exa hZ.alike A306 (by decide) (by decide)) sf0) C307.1 (Safe.new (by omega))
 -- pc 8: StringBuilder.append by rm_sa_1_0_16
 have f319 : Old Z n0 h311 := (f312.keep K311 (allS (by omega) all0))
 have f320 : Exa Z h311 x1 kS1 := (f313.keep K311)
 have f321 : Fld Z h311 x1 kS1 "coder" "B" (.int 0) := ((Fcx1.ext E306).keep K311 (ninS (Ne.symm ne314) nin0))
 have f322 : Fld Z h311 x1 kS1 "value" "[B" (.ref t1) := ((Fvx1.ext E306).keep K311 (ninS (Ne.symm ne314) nin0))
 have f323 : Arv Z h311 t1 k1 .byte (1 : Int32) [(.int xs0)] (.int 0) := (f315.keep K311 (ninS (Ne.symm ne316) nin0))
 obtain ⟨cq318, kq318, q318a, q318b, q318c⟩ := isOf hZ e311 p311_0
 obtain ⟨_, _, ⟨T318, L318, k318, n318⟩, -, X318, ⟨Lc318, hQ318, l318, y318, z318⟩, st318⟩ := X311.virtualBack hx (y := (⟨kS2, "append", "(Ljava/lang/String;)Ljava/lang/StringBuilder;"⟩ : MethodName)) (z := (⟨kS2, "append", "(Ljava/lang/String;)Ljava/lang/StringBuilder;"⟩ : MethodName)) hown (mvT hZ (wd hw 44 rfl)) (mvT hZ (wd hw 45 rfl)) (notFace_of_selects (args := #[]) (mvT hZ (wd hw 47 rfl))) (mvT hZ (wd hw 47 rfl)) (mvT hZ (wd hw 46 rfl)) (by decide) (backOf (W := 0) (rm_sa_1_0_16 l Z a0 hw [] x1 t1 k1 xs0 b306 d_311 k_311 z0 h311 n0 (by omega) f319 f320 f321 f322 f323 p311_0 p311_1 p311_2 p311_3 p311_4 (by first | assumption | decide | omega) (by first | assumption | decide | omega) (by first | assumption | decide | omega) (by first | assumption | decide | omega) (neN (by omega))) hZ (wd hw 48 rfl) (wd hw 28 rfl) (by decide) (by decide)) q318a q318c (g := (mkF m 8 #[.val (.ref x1)] [(.ref x1), (.ref b306)])) rfl (by rw [hml]; rfl) (Steps.refl _) (argsL := [(.ref x1)]) (rest := []) (lenOf pd_19 rfl) rfl (wz rfl) (hb hby d4_8) (fun _ _ => ⟨rfl, e311, (by decide : 2 + 0 ≤ _), (by decide : 20 + 0 ≤ _)⟩)
 dsimp only [Pt.U, Pt.locs, Pt.cells, Pt.slots] at X318 l318 y318 z318 st318 hQ318
 subst l318 y318 z318
 obtain ⟨h318, e318⟩ : ∃ z, T318.heap = z := ⟨_, rfl⟩
 rw [e318] at hQ318
 obtain ⟨rfl, N318q, K318, p318_0, p318_1, p318_2, p318_3, p318_4⟩ := hQ318
 have N318 := Fr.app N311 N318q
 have ne324 : d_311 ≠ x1 := Ne.symm (Exa.neArv f320 p311_4 (wd hw 2 rfl))
 have C325 : CHr Z EL1 s.vm h0 s.vm h318 := C317.trans (CHr.keep K318 (sfS (Safe.exa hZ.alike p311_0 (by decide) (by decide)) (sfS B311_d_311 sf0)) C317.1)
 have sz318 : h311.size ≤ h318.size := K318.1
 have lt318_0 := ltA p318_0.lt
 have lt318_4 := ltA p318_4.lt
 obtain ⟨sa326, T326, h326, kk326, sb326, sk326, X326, e326, E326, hS326, hk326, hZ326, hown326, A326, Fc326, Fv326, V326, lt326, ltb326, C326w, Lt326, ne326, st326⟩ := ldcCH X318 hx hZ hown (wd hw 92 rfl) (own_wS hw) e318 hS0 (by omega) (own_EW hw) (by decide) C325.1 (vs := [(.int 10)]) (z := (1 : Int32)) (by decide +kernel) (by decide) (by decide) (g := (mkF m 11 #[.val (.ref x1)] [(.ref b306)])) rfl (hb hby d4_11) (n := 4) (by decide) (by decide) (by decide) (by decide)
 have C327 : CHr Z EL1 s.vm h0 T326.vm h326 := C325.trans (C326w)
 have sz326 : h318.size ≤ h326.size := E326.1
 have lv326 := ltA lt326
 have lw326 := ltA ltb326
 have f328 : Safe Z EL1 T326.vm h326 d_311 := (CHr.safe C326w (ltN (by omega)) (Safe.keep K318 (sfS (Safe.exa hZ.alike p311_0 (by decide) (by decide)) (sfS B311_d_311 sf0)) C317.1 B311_d_311))
 have nx326_d_311 := ne326 d_311 f328
 have f329 : Exa Z h326 b306 kS2 := (p318_0.ext E326)
 have nx326_b306 := ne326 b306 (Safe.exa hZ326.alike f329 (by decide) (by decide))
 -- pc 13: StringBuilder.append by rm_sa_1_1_16
 have f331 : Old Z n0 h326 := ((f319.keep K318 (allS (by omega) (allS (by omega) all0))).ext E326)
 have f332 : Fld Z h326 b306 kS0 "value" "[B" (.ref d_311) := (p318_1.ext E326)
 have f333 : Fld Z h326 b306 kS0 "coder" "B" (.int 0) := (p318_2.ext E326)
 have f334 : Fld Z h326 b306 kS0 "count" "I" (.int 1) := (p318_3.ext E326)
 have f335 : Arv Z h326 d_311 k_311 .byte (16 : Int32) [(.int xs0), (.int 0), (.int 0), (.int 0), (.int 0), (.int 0), (.int 0), (.int 0), (.int 0), (.int 0), (.int 0), (.int 0), (.int 0), (.int 0), (.int 0), (.int 0)] (.int 0) := (p318_4.ext E326)
 obtain ⟨cq330, kq330, q330a, q330b, q330c⟩ := isOf hZ326 e326 f329
 obtain ⟨_, _, ⟨T330, L330, k330, n330⟩, -, X330, ⟨Lc330, hQ330, l330, y330, z330⟩, st330⟩ := X326.virtualBack hx (y := (⟨kS2, "append", "(Ljava/lang/String;)Ljava/lang/StringBuilder;"⟩ : MethodName)) (z := (⟨kS2, "append", "(Ljava/lang/String;)Ljava/lang/StringBuilder;"⟩ : MethodName)) hown326 (mvT hZ326 (wd hw 44 rfl)) (mvT hZ326 (wd hw 45 rfl)) (notFace_of_selects (args := #[]) (mvT hZ326 (wd hw 47 rfl))) (mvT hZ326 (wd hw 47 rfl)) (mvT hZ326 (wd hw 46 rfl)) (by decide) (backOf (W := 0) (rm_sa_1_1_16 l Z a0 hw [] sa326 sb326 sk326 (10 : Int32) b306 d_311 k_311 xs0 z0 h326 n0 (by omega) f331 A326 Fc326 Fv326 V326 f329 f332 f333 f334 f335 (by first | assumption | decide | omega) (by first | assumption | decide | omega) (by first | assumption | decide | omega) (by first | assumption | decide | omega) (Ne.symm nx326_d_311.2)) hZ326 (wd hw 48 rfl) (wd hw 28 rfl) (by decide) (by decide)) q330a q330c (g := (mkF m 13 #[.val (.ref x1)] [(.ref sa326), (.ref b306)])) rfl (by rw [hml]; rfl) (Steps.refl _) (argsL := [(.ref sa326)]) (rest := []) (lenOf pd_19 rfl) rfl (wz rfl) (hb hby d4_13) (fun _ _ => ⟨rfl, e326, (by decide : 4 + 0 ≤ _), (by decide : 28 + 0 ≤ _)⟩)
 dsimp only [Pt.U, Pt.locs, Pt.cells, Pt.slots] at X330 l330 y330 z330 st330 hQ330
 subst l330 y330 z330
 obtain ⟨h330, e330⟩ : ∃ z, T330.heap = z := ⟨_, rfl⟩
 rw [e330] at hQ330
 obtain ⟨rfl, N330q, K330, p330_0, p330_1, p330_2, p330_3, p330_4⟩ := hQ330
 have N330 := Fr.app N318 N330q
 have C336 : CHr Z EL1 s.vm h0 T326.vm h330 := C327.trans (CHr.keep K330 (sfS (Safe.exa hZ326.alike f329 (by decide) (by decide)) (sfS f328 sf0)) C327.1)
 have sz330 : h326.size ≤ h330.size := K330.1
 have lt330_0 := ltA p330_0.lt
 have lt330_4 := ltA p330_4.lt
 -- pc 16: StringBuilder.toString by rm_ts_2_16
 have f338 : Old Z n0 h330 := (f331.keep K330 (allS (by omega) (allS (by omega) all0)))
 obtain ⟨cq337, kq337, q337a, q337b, q337c⟩ := isOf hZ326 e330 p330_0
 obtain ⟨_, _, ⟨T337, L337, k337, n337⟩, -, X337, ⟨Lc337, hQ337, l337, y337, z337⟩, st337⟩ := X330.virtualBack hx (y := (⟨kS2, "toString", "()Ljava/lang/String;"⟩ : MethodName)) (z := (⟨kS2, "toString", "()Ljava/lang/String;"⟩ : MethodName)) hown326 (mvT hZ326 (wd hw 93 rfl)) (mvT hZ326 (wd hw 94 rfl)) (notFace_of_selects (args := #[]) (mvT hZ326 (wd hw 96 rfl))) (mvT hZ326 (wd hw 96 rfl)) (mvT hZ326 (wd hw 95 rfl)) (by decide) (backOf (W := 0) (rm_ts_2_16 l Z a0 hw [] b306 d_311 k_311 xs0 (10 : Int32) z0 h330 n0 (by omega) f338 p330_0 p330_1 p330_2 p330_3 p330_4 (by first | assumption | decide | omega) (by first | assumption | decide | omega)) hZ326 (wd hw 97 rfl) (wd hw 28 rfl) (by decide) (by decide)) q337a q337c (g := (mkF m 16 #[.val (.ref x1)] [(.ref b306)])) rfl (by rw [hml]; rfl) (Steps.refl _) (argsL := []) (rest := []) (lenOf pd_20 rfl) rfl (wz rfl) (hb hby d4_16) (fun _ _ => ⟨rfl, e330, (by decide : 4 + 2 ≤ _), (by decide : 28 + 6 ≤ _)⟩)
 dsimp only [Pt.U, Pt.locs, Pt.cells, Pt.slots] at X337 l337 y337 z337 st337 hQ337
 subst l337 y337 z337
 obtain ⟨h337, e337⟩ : ∃ z, T337.heap = z := ⟨_, rfl⟩
 rw [e337] at hQ337
 obtain ⟨x_337, t_337, k_337, rfl, N337q, K337, p337_0, p337_1, p337_2, p337_3, p337_4, r337_0, r337_1⟩ := hQ337
 have N337 := Fr.app N330 N337q
 have C339 : CHr Z EL1 s.vm h0 T326.vm h337 := C336.trans (CHr.keep K337 sf0 C336.1)
 have sz337 : h330.size ≤ h337.size := K337.1
 have lt337_0 := ltA p337_0.lt
 have lt337_3 := ltA p337_3.lt
 have lt337_4 := ltA p337_4.lt
 have B337_x_337 : Safe Z EL1 T326.vm h337 x_337 := Safe.keep K337 sf0 C336.1 (Safe.new (by omega))
 have B337_t_337 : Safe Z EL1 T326.vm h337 t_337 := Safe.keep K337 sf0 C336.1 (Safe.new (by omega))
 have f340 : Old Z n0 h337 := (f338.keep K337 all0)
 have S341 : Sta Z h337 "java/nio/charset/StandardCharsets" "US_ASCII" "Ljava/nio/charset/Charset;" (.ref q0) := SZq0.ext f340.2
 obtain ⟨T342, X342, e342, st342⟩ := getS2 X337 hx hZ326 hown326 (host := "") (Or.inl (wd hw 138 rfl)) Via.refl e337 S341 (g := (mkF m 19 #[.val (.ref x1)] [(.ref x_337)])) rfl (hb hby d4_19)
 -- pc 22: String.getBytes by rm_gbc2
 obtain ⟨cq343, kq343, q343a, q343b, q343c⟩ := isOf hZ326 e342 p337_0
 obtain ⟨_, _, ⟨T343, L343, k343, n343⟩, -, X343, ⟨Lc343, hQ343, l343, y343, z343⟩, st343⟩ := X342.virtualBack hx (y := (⟨kS1, "getBytes", "(Ljava/nio/charset/Charset;)[B"⟩ : MethodName)) (z := (⟨kS1, "getBytes", "(Ljava/nio/charset/Charset;)[B"⟩ : MethodName)) hown326 (mvT hZ326 (wd hw 140 rfl)) (mvT hZ326 (wd hw 141 rfl)) (notFace_of_selects (args := #[]) (mvT hZ326 (wd hw 143 rfl))) (mvT hZ326 (wd hw 143 rfl)) (mvT hZ326 (wd hw 142 rfl)) (by decide) (backOf (W := 0) (rm_gbc2 l Z a0 hw [] q0 q1 q2 x_337 t_337 k_337 xs0 (10 : Int32) z0 h337 n0 (by omega) f340 p337_0 p337_1 p337_2 p337_4 p337_3 (by first | assumption | decide | omega) (by first | assumption | decide | omega) ⟨SZq0, SZqa, SZq1, SZq2, nq1, nq2⟩ (by first | assumption | decide | omega) (by first | assumption | decide | omega)) hZ326 (wd hw 144 rfl) (wd hw 3 rfl) (by decide) (by decide)) q343a q343c (g := (mkF m 22 #[.val (.ref x1)] [(.ref q0), (.ref x_337)])) rfl (by rw [hml]; rfl) (Steps.refl _) (argsL := [(.ref q0)]) (rest := []) (lenOf pd_21 rfl) rfl (wz rfl) (hb hby d4_22) (fun _ _ => ⟨rfl, e342, (by decide : 6 + 1 ≤ _), (by decide : 34 + 2 ≤ _)⟩)
 dsimp only [Pt.U, Pt.locs, Pt.cells, Pt.slots] at X343 l343 y343 z343 st343 hQ343
 subst l343 y343 z343
 obtain ⟨h343, e343⟩ : ∃ z, T343.heap = z := ⟨_, rfl⟩
 rw [e343] at hQ343
 obtain ⟨t_343, k_343, rfl, N343q, K343, p343_0⟩ := hQ343
 have N343 := Fr.app N337 N343q
 have C344 : CHr Z EL1 s.vm h0 T326.vm h343 := C339.trans (CHr.keep K343 sf0 C339.1)
 have sz343 : h337.size ≤ h343.size := K343.1
 have lt343_0 := ltA p343_0.lt
 obtain ⟨fs, hr, hrun, hended, hE⟩ := X343.leaveW hS326 (by rw [e343]; omega) (v := some (.ref t_343)) (fun h => by rw [Bd.returns] at h; cases h)
 have CE := C344.trans (CHv.at X343 hZ326 (own_EW hw) C344.1)
 refine ⟨_, _, pre0 _ ?_, hrun, hended, _, _, rfl, ?_, ?_, ⟨hE.1, hE.2.1, hE.2.2.1, hE.2.2.2.mono (by decide) (by decide)⟩⟩
 ·show GO p e below s₁ (mkF m 0 #[.val (.ref x1)] []) _
  refine st306 _ ?_
  show GO p e below T306 (mkF m 3 #[.val (.ref x1)] [(.ref b306)]) _
  refine XS.dup X306.here hx rfl (hb hby d4_3) rfl rfl ?_
  show GO p e below T306 (mkF m 4 #[.val (.ref x1)] [(.ref b306), (.ref b306)]) _
  refine st311.trans ?_
  show GO p e below T311 (mkF m 7 #[.val (.ref x1)] [(.ref b306)]) _
  refine XS.aloadN X311.here hx rfl (hb hby d4_7) rfl rfl ?_
  show GO p e below T311 (mkF m 8 #[.val (.ref x1)] [(.ref x1), (.ref b306)]) _
  refine st318.trans ?_
  show GO p e below T318 (mkF m 11 #[.val (.ref x1)] [(.ref b306)]) _
  refine st326 _ ?_
  show GO p e below T326 (mkF m 13 #[.val (.ref x1)] [(.ref sa326), (.ref b306)]) _
  refine st330.trans ?_
  show GO p e below T330 (mkF m 16 #[.val (.ref x1)] [(.ref b306)]) _
  refine st337.trans ?_
  show GO p e below T337 (mkF m 19 #[.val (.ref x1)] [(.ref x_337)]) _
  refine st342 _ ?_
  show GO p e below T342 (mkF m 22 #[.val (.ref x1)] [(.ref q0), (.ref x_337)]) _
  refine st343.trans ?_
  show GO p e below T343 (mkF m 25 #[.val (.ref x1)] [(.ref t_343)]) _
  exact retOut X343 hx Bd.returns rfl (Or.inr (Or.inr (Or.inr (Or.inr ⟨rfl, rfl, rfl⟩)))) (hb hby d4_25) hr
 ·show Qrm_line1 Z q0 q1 q2 x1 t1 k1 xs0 z0 h0 n0 _ T343.heap _
  rw [e343]
  exact ⟨t_343, k_343, rfl, N343, ((((((((Keep.refl h0 []).ext E306).trans K311 (allS (P := fun x => x ∈ _ ∨ _) (Or.inr (by omega)) all0)).trans K318 (allS (P := fun x => x ∈ _ ∨ _) (Or.inr (by omega)) (allS (P := fun x => x ∈ _ ∨ _) (Or.inr (by omega)) all0))).ext E326).trans K330 (allS (P := fun x => x ∈ _ ∨ _) (Or.inr (by omega)) (allS (P := fun x => x ∈ _ ∨ _) (Or.inr (by omega)) all0))).trans K337 all0).trans K343 all0), p343_0⟩
 ·show CHr Z EL1 s.vm s.heap T343.vm T343.heap
  rw [hh, e343]
  exact CE
def Qrm_cp3 (Z : State) (t1 : Addr) (k1 : ClassId) (xs0 : Int32) (xs1 : Int32) (xs2 : Int32) (h0 : Heap) (n0 : Nat) (v : Option Value) (h : Heap) (L : List Loc) : Prop := v = some (.int 3) ∧ Fr n0 L ∧ h = h0
theorem ef_rm_cp3 (m : MethodId) (x0 : Addr) (x1 : Int32) (x2 : Int32) : entryFrame m #[(.ref x0), (.int x1), (.int x2)] 5 = mkF m 0 (la1 x0 x1 x2) [] := by first | rfl | (simp [entryFrame, mkF, argsToLocals, Value.category]; done)
theorem rm_cp3 (l : Launch) (Z : State) (a0 : Array Value) (hw : HW Z a0) (ws : List Jvm.Cond) (t1 : Addr) (k1 : ClassId) (xs0 : Int32) (xs1 : Int32) (xs2 : Int32) (h0 : Heap) (n0 : Nat) (Z0 : n0 ≤ h0.size) (V1 : Arv Z h0 t1 k1 .byte (3 : Int32) [(.int xs0), (.int xs1), (.int xs2)] (.int 0)) (hg0 : ¬ xs0 < 0) (hg1 : ¬ xs1 < 0) (hg2 : ¬ xs2 < 0) :
  OwnM l Z h0 (⟨"java/lang/StringCoding", "countPositives", "([BII)I"⟩ : MethodName) (Jvm.Cond.code (⟨"java/lang/StringCoding", "countPositives", "([BII)I"⟩ : MethodName) jdk_123_method_3_code 5 (some .int) :: ws) (RM 0 0 0 0) #[(.ref t1), (.int 0), (.int 3)] (Qrm_cp3 Z t1 k1 xs0 xs1 xs2 h0 n0) := by
 refine MetFree.of_bodySF (plainFor_of_name pn_1) hisR ?_
 intro p e s m args below meth c s₁ Bd hml0 hP hK
 obtain ⟨rfl, hZ, hh⟩ := hP
 have hx := Bd.exec
 have hby := Bd.bytes
 have hml : c.maxLocals = 5 := hml0
 have hown : s.vm.findClass "java/lang/StringCoding" = some m.cls := findClass_of_methodNamed Bd.named
 have hnm := (name_of_methodNamed Bd.named Bd.method).1
 have X0 : Stand p l e (RM 0 0 0 0) s m #[(.ref t1), (.int 0), (.int 3)] below meth c s₁ [] 0 0 := Stand.of_body Bd
 have e0 : s₁.heap = h0 := by rw [← hh, Bd.state]; rfl
 have N0 := Fr.nil n0
 have pre0 : ∀ t, GO p e below s₁ (mkF m 0 (la1 t1 (0 : Int32) (3 : Int32)) []) t → GO p e below s₁ (entryFrame m #[(.ref t1), (.int 0), (.int 3)] 5) t := fun t k => castTop (ef_rm_cp3 m t1 ((0 : Int32)) ((3 : Int32))) k
 have lt_V1 := ltA V1.lt
 obtain ⟨cl345, Ar345, q345, S345, M345, H345, G345⟩ := id V1
 have hin345 : ¬ ((0 : Int32) < 0 ∨ cl345.slots.size ≤ ((0 : Int32)).toNatClampNeg) := inb_of S345 ⟨by decide, by decide⟩
 have hat345 : cl345.slots[((0 : Int32)).toNatClampNeg]? = some (.int xs0) := Has.at H345 hin345 rfl
 obtain ⟨cl346, Ar346, q346, S346, M346, H346, G346⟩ := id V1
 have hin346 : ¬ ((1 : Int32) < 0 ∨ cl346.slots.size ≤ ((1 : Int32)).toNatClampNeg) := inb_of S346 ⟨by decide, by decide⟩
 have hat346 : cl346.slots[((1 : Int32)).toNatClampNeg]? = some (.int xs1) := Has.at H346 hin346 rfl
 obtain ⟨cl347, Ar347, q347, S347, M347, H347, G347⟩ := id V1
 have hin347 : ¬ ((2 : Int32) < 0 ∨ cl347.slots.size ≤ ((2 : Int32)).toNatClampNeg) := inb_of S347 ⟨by decide, by decide⟩
 have hat347 : cl347.slots[((2 : Int32)).toNatClampNeg]? = some (.int xs2) := Has.at H347 hin347 rfl
 obtain ⟨fs, hr, hrun, hended, hW, hsame⟩ := X0.leave (v := some (.int 3)) (fun h => by rw [Bd.returns] at h; cases h)
 refine ⟨_, _, pre0 _ ?_, hrun, hended, _, _, rfl, ?_, ⟨_, rfl⟩, hW, hsame.mono (by decide) (by decide)⟩
 ·show GO p e below s₁ (mkF m 0 (la1 t1 (0 : Int32) (3 : Int32)) []) _
  refine XS.iloadN X0.here hx rfl (hb hby d29_0) rfl ?_
  show GO p e below s₁ (mkF m 1 (la1 t1 (0 : Int32) (3 : Int32)) [(.int 0)]) _
  refine XS.iloadN X0.here hx rfl (hb hby d29_1) rfl ?_
  show GO p e below s₁ (mkF m 2 (la1 t1 (0 : Int32) (3 : Int32)) [(.int 3), (.int 0)]) _
  refine XS.iadd X0.here hx rfl (hb hby d29_2) rfl ?_
  rw [show ((0 : Int32) + (3 : Int32)) = (3 : Int32) from by decide]
  show GO p e below s₁ (mkF m 3 (la1 t1 (0 : Int32) (3 : Int32)) [(.int 3)]) _
  refine XS.istoreN X0.here hx rfl (hb hby d29_3) rfl (l' := (la2 t1 (0 : Int32) (3 : Int32) (3 : Int32))) rfl ?_
  show GO p e below s₁ (mkF m 4 (la2 t1 (0 : Int32) (3 : Int32) (3 : Int32)) []) _
  refine XS.iloadN X0.here hx rfl (hb hby d29_4) rfl ?_
  show GO p e below s₁ (mkF m 5 (la2 t1 (0 : Int32) (3 : Int32) (3 : Int32)) [(.int 0)]) _
  refine XS.istore X0.here hx rfl (hb hby d29_5) rfl (l' := (la3 t1 (0 : Int32) (3 : Int32) (3 : Int32) (0 : Int32))) rfl ?_
  show GO p e below s₁ (mkF m 7 (la3 t1 (0 : Int32) (3 : Int32) (3 : Int32) (0 : Int32)) []) _
  refine XS.iload X0.here hx rfl (hb hby d29_7) rfl ?_
  show GO p e below s₁ (mkF m 9 (la3 t1 (0 : Int32) (3 : Int32) (3 : Int32) (0 : Int32)) [(.int 0)]) _
  refine XS.iloadN X0.here hx rfl (hb hby d29_9) rfl ?_
  show GO p e below s₁ (mkF m 10 (la3 t1 (0 : Int32) (3 : Int32) (3 : Int32) (0 : Int32)) [(.int 3), (.int 0)]) _
  refine XS.icmpNo X0.here hx rfl (hb hby d29_10) rfl (tlt ((by decide) : (0 : Int32) < (3 : Int32))).2.1 ?_
  show GO p e below s₁ (mkF m 13 (la3 t1 (0 : Int32) (3 : Int32) (3 : Int32) (0 : Int32)) []) _
  refine XS.aloadN X0.here hx rfl (hb hby d29_13) rfl rfl ?_
  show GO p e below s₁ (mkF m 14 (la3 t1 (0 : Int32) (3 : Int32) (3 : Int32) (0 : Int32)) [(.ref t1)]) _
  refine XS.iload X0.here hx rfl (hb hby d29_14) rfl ?_
  show GO p e below s₁ (mkF m 16 (la3 t1 (0 : Int32) (3 : Int32) (3 : Int32) (0 : Int32)) [(.int 0), (.ref t1)]) _
  refine X0.baloadBytes hx (j := (0 : Int32)) (v := (.int xs0)) (by rw [e0]; exact Ar345.1) (State.isArrayOf_alike hZ.alike Ar345.2.1) Ar345.2.2 hin345 hat345 (g := (mkF m 16 (la3 t1 (0 : Int32) (3 : Int32) (3 : Int32) (0 : Int32)) [(.int 0), (.ref t1)])) rfl rfl (hb hby d29_16) _ ?_
  show GO p e below s₁ (mkF m 17 (la3 t1 (0 : Int32) (3 : Int32) (3 : Int32) (0 : Int32)) [(.int xs0)]) _
  refine XS.ifYes X0.here hx rfl (pc0 := 17) (pc' := 25) rfl (hb hby d29_17) rfl ((if0 _ _).trans (flt (hg0 : ¬ (xs0 < (0 : Int32)))).2.1) (by decide) (by decide) ?_
  show GO p e below s₁ (mkF m 25 (la3 t1 (0 : Int32) (3 : Int32) (3 : Int32) (0 : Int32)) []) _
  refine XS.iinc X0.here hx rfl (hb hby d29_25) rfl (l' := (la3 t1 (0 : Int32) (3 : Int32) (3 : Int32) ((0 : Int32) + (1 : Int32)))) rfl ?_
  rw [show ((0 : Int32) + (1 : Int32)) = (1 : Int32) from by decide]
  show GO p e below s₁ (mkF m 28 (la3 t1 (0 : Int32) (3 : Int32) (3 : Int32) (1 : Int32)) []) _
  refine XS.goto X0.here hx rfl (pc0 := 28) (pc' := 7) rfl (hb hby d29_28) (by decide) (by decide) ?_
  show GO p e below s₁ (mkF m 7 (la3 t1 (0 : Int32) (3 : Int32) (3 : Int32) (1 : Int32)) []) _
  refine XS.iload X0.here hx rfl (hb hby d29_7) rfl ?_
  show GO p e below s₁ (mkF m 9 (la3 t1 (0 : Int32) (3 : Int32) (3 : Int32) (1 : Int32)) [(.int 1)]) _
  refine XS.iloadN X0.here hx rfl (hb hby d29_9) rfl ?_
  show GO p e below s₁ (mkF m 10 (la3 t1 (0 : Int32) (3 : Int32) (3 : Int32) (1 : Int32)) [(.int 3), (.int 1)]) _
  refine XS.icmpNo X0.here hx rfl (hb hby d29_10) rfl (tlt ((by decide) : (1 : Int32) < (3 : Int32))).2.1 ?_
  show GO p e below s₁ (mkF m 13 (la3 t1 (0 : Int32) (3 : Int32) (3 : Int32) (1 : Int32)) []) _
  refine XS.aloadN X0.here hx rfl (hb hby d29_13) rfl rfl ?_
  show GO p e below s₁ (mkF m 14 (la3 t1 (0 : Int32) (3 : Int32) (3 : Int32) (1 : Int32)) [(.ref t1)]) _
  refine XS.iload X0.here hx rfl (hb hby d29_14) rfl ?_
  show GO p e below s₁ (mkF m 16 (la3 t1 (0 : Int32) (3 : Int32) (3 : Int32) (1 : Int32)) [(.int 1), (.ref t1)]) _
  refine X0.baloadBytes hx (j := (1 : Int32)) (v := (.int xs1)) (by rw [e0]; exact Ar346.1) (State.isArrayOf_alike hZ.alike Ar346.2.1) Ar346.2.2 hin346 hat346 (g := (mkF m 16 (la3 t1 (0 : Int32) (3 : Int32) (3 : Int32) (1 : Int32)) [(.int 1), (.ref t1)])) rfl rfl (hb hby d29_16) _ ?_
  show GO p e below s₁ (mkF m 17 (la3 t1 (0 : Int32) (3 : Int32) (3 : Int32) (1 : Int32)) [(.int xs1)]) _
  refine XS.ifYes X0.here hx rfl (pc0 := 17) (pc' := 25) rfl (hb hby d29_17) rfl ((if0 _ _).trans (flt (hg1 : ¬ (xs1 < (0 : Int32)))).2.1) (by decide) (by decide) ?_
  show GO p e below s₁ (mkF m 25 (la3 t1 (0 : Int32) (3 : Int32) (3 : Int32) (1 : Int32)) []) _
  refine XS.iinc X0.here hx rfl (hb hby d29_25) rfl (l' := (la3 t1 (0 : Int32) (3 : Int32) (3 : Int32) ((1 : Int32) + (1 : Int32)))) rfl ?_
  rw [show ((1 : Int32) + (1 : Int32)) = (2 : Int32) from by decide]
  show GO p e below s₁ (mkF m 28 (la3 t1 (0 : Int32) (3 : Int32) (3 : Int32) (2 : Int32)) []) _
  refine XS.goto X0.here hx rfl (pc0 := 28) (pc' := 7) rfl (hb hby d29_28) (by decide) (by decide) ?_
  show GO p e below s₁ (mkF m 7 (la3 t1 (0 : Int32) (3 : Int32) (3 : Int32) (2 : Int32)) []) _
  refine XS.iload X0.here hx rfl (hb hby d29_7) rfl ?_
  show GO p e below s₁ (mkF m 9 (la3 t1 (0 : Int32) (3 : Int32) (3 : Int32) (2 : Int32)) [(.int 2)]) _
  refine XS.iloadN X0.here hx rfl (hb hby d29_9) rfl ?_
  show GO p e below s₁ (mkF m 10 (la3 t1 (0 : Int32) (3 : Int32) (3 : Int32) (2 : Int32)) [(.int 3), (.int 2)]) _
  refine XS.icmpNo X0.here hx rfl (hb hby d29_10) rfl (tlt ((by decide) : (2 : Int32) < (3 : Int32))).2.1 ?_
  show GO p e below s₁ (mkF m 13 (la3 t1 (0 : Int32) (3 : Int32) (3 : Int32) (2 : Int32)) []) _
  refine XS.aloadN X0.here hx rfl (hb hby d29_13) rfl rfl ?_
  show GO p e below s₁ (mkF m 14 (la3 t1 (0 : Int32) (3 : Int32) (3 : Int32) (2 : Int32)) [(.ref t1)]) _
  refine XS.iload X0.here hx rfl (hb hby d29_14) rfl ?_
  show GO p e below s₁ (mkF m 16 (la3 t1 (0 : Int32) (3 : Int32) (3 : Int32) (2 : Int32)) [(.int 2), (.ref t1)]) _
  refine X0.baloadBytes hx (j := (2 : Int32)) (v := (.int xs2)) (by rw [e0]; exact Ar347.1) (State.isArrayOf_alike hZ.alike Ar347.2.1) Ar347.2.2 hin347 hat347 (g := (mkF m 16 (la3 t1 (0 : Int32) (3 : Int32) (3 : Int32) (2 : Int32)) [(.int 2), (.ref t1)])) rfl rfl (hb hby d29_16) _ ?_
  show GO p e below s₁ (mkF m 17 (la3 t1 (0 : Int32) (3 : Int32) (3 : Int32) (2 : Int32)) [(.int xs2)]) _
  refine XS.ifYes X0.here hx rfl (pc0 := 17) (pc' := 25) rfl (hb hby d29_17) rfl ((if0 _ _).trans (flt (hg2 : ¬ (xs2 < (0 : Int32)))).2.1) (by decide) (by decide) ?_
  show GO p e below s₁ (mkF m 25 (la3 t1 (0 : Int32) (3 : Int32) (3 : Int32) (2 : Int32)) []) _
  refine XS.iinc X0.here hx rfl (hb hby d29_25) rfl (l' := (la3 t1 (0 : Int32) (3 : Int32) (3 : Int32) ((2 : Int32) + (1 : Int32)))) rfl ?_
  rw [show ((2 : Int32) + (1 : Int32)) = (3 : Int32) from by decide]
  show GO p e below s₁ (mkF m 28 (la3 t1 (0 : Int32) (3 : Int32) (3 : Int32) (3 : Int32)) []) _
  refine XS.goto X0.here hx rfl (pc0 := 28) (pc' := 7) rfl (hb hby d29_28) (by decide) (by decide) ?_
  show GO p e below s₁ (mkF m 7 (la3 t1 (0 : Int32) (3 : Int32) (3 : Int32) (3 : Int32)) []) _
  refine XS.iload X0.here hx rfl (hb hby d29_7) rfl ?_
  show GO p e below s₁ (mkF m 9 (la3 t1 (0 : Int32) (3 : Int32) (3 : Int32) (3 : Int32)) [(.int 3)]) _
  refine XS.iloadN X0.here hx rfl (hb hby d29_9) rfl ?_
  show GO p e below s₁ (mkF m 10 (la3 t1 (0 : Int32) (3 : Int32) (3 : Int32) (3 : Int32)) [(.int 3), (.int 3)]) _
  refine XS.icmpYes X0.here hx rfl (pc0 := 10) (pc' := 31) rfl (hb hby d29_10) rfl (flt ((by decide) : ¬ ((3 : Int32) < (3 : Int32)))).2.1 (by decide) (by decide) ?_
  show GO p e below s₁ (mkF m 31 (la3 t1 (0 : Int32) (3 : Int32) (3 : Int32) (3 : Int32)) []) _
  refine XS.iloadN X0.here hx rfl (hb hby d29_31) rfl ?_
  show GO p e below s₁ (mkF m 32 (la3 t1 (0 : Int32) (3 : Int32) (3 : Int32) (3 : Int32)) [(.int 3)]) _
  exact retI X0 hx Bd.returns (hb hby d29_32) hr
 ·show Qrm_cp3 Z t1 k1 xs0 xs1 xs2 h0 n0 _ s₁.heap _
  rw [e0]
  exact ⟨rfl, N0, rfl⟩
def Qrm_ea3 (Z : State) (t1 : Addr) (k1 : ClassId) (xs0 : Int32) (xs1 : Int32) (xs2 : Int32) (h0 : Heap) (n0 : Nat) (v : Option Value) (h : Heap) (L : List Loc) : Prop := ∃ t : Addr, ∃ k : ClassId, v = some (.ref t) ∧ Fr n0 L ∧ Keep h0 h [] ∧ Arv Z h t k .byte (3 : Int32) [(.int xs0), (.int xs1), (.int xs2)] (.int 0)
theorem ef_rm_ea3 (m : MethodId) (x0 : Int32) (x1 : Addr) : entryFrame m #[(.int x0), (.ref x1)] 7 = mkF m 0 (la4 x0 x1) [] := by first | rfl | (simp [entryFrame, mkF, argsToLocals, Value.category]; done)
theorem rm_ea3 (l : Launch) (Z : State) (a0 : Array Value) (hw : HW Z a0) (ws : List Jvm.Cond) (t1 : Addr) (k1 : ClassId) (xs0 : Int32) (xs1 : Int32) (xs2 : Int32) (h0 : Heap) (n0 : Nat) (Z0 : n0 ≤ h0.size) (E1 : Exa Z h0 t1 "[B") (V1 : Arv Z h0 t1 k1 .byte (3 : Int32) [(.int xs0), (.int xs1), (.int xs2)] (.int 0)) (hg0 : ¬ xs0 < 0) (hg1 : ¬ xs1 < 0) (hg2 : ¬ xs2 < 0) :
  OwnM l Z h0 (⟨kS1, "encodeASCII", "(B[B)[B"⟩ : MethodName) (Jvm.Cond.code (⟨kS1, "encodeASCII", "(B[B)[B"⟩ : MethodName) jdk_42_method_24_code 7 (some (.array .byte)) :: ws) (RM 1 1 3 16) #[(.int 0), (.ref t1)] (Qrm_ea3 Z t1 k1 xs0 xs1 xs2 h0 n0) := by
 refine MetFree.of_bodySF (plainFor_of_name pn_0) hisR ?_
 intro p e s m args below meth c s₁ Bd hml0 hP hK
 obtain ⟨rfl, hZ, hh⟩ := hP
 have hx := Bd.exec
 have hby := Bd.bytes
 have hml : c.maxLocals = 7 := hml0
 have hown : s.vm.findClass kS1 = some m.cls := findClass_of_methodNamed Bd.named
 have hnm := (name_of_methodNamed Bd.named Bd.method).1
 have X0 : Stand p l e (RM 1 1 3 16) s m #[(.int 0), (.ref t1)] below meth c s₁ [] 0 0 := Stand.of_body Bd
 have e0 : s₁.heap = h0 := by rw [← hh, Bd.state]; rfl
 have N0 := Fr.nil n0
 have pre0 : ∀ t, GO p e below s₁ (mkF m 0 (la4 (0 : Int32) t1) []) t → GO p e below s₁ (entryFrame m #[(.int 0), (.ref t1)] 7) t := fun t k => castTop (ef_rm_ea3 m ((0 : Int32)) t1) k
 have lt_E1 := ltA E1.lt
 have lt_V1 := ltA V1.lt
 obtain ⟨cl348, Ar348, -, S348, M348, -, -⟩ := id V1
 -- pc 8: StringCoding.countPositives by rm_cp3
 obtain ⟨_, _, ⟨T349, L349, k349, n349⟩, -, X349, ⟨Lc349, hQ349, l349, y349, z349⟩, st349⟩ := Jvm.LawKit.callS X0 hx (y := (⟨"java/lang/StringCoding", "countPositives", "([BII)I"⟩ : MethodName)) hown (mvT hZ (wd hw 157 rfl)) (mvT hZ (wd hw 158 rfl)) (mvT hZ (wd hw 159 rfl)) (mvT hZ (wd hw 160 rfl)) (by decide) (backOf (W := 0) (rm_cp3 l Z a0 hw [] t1 k1 xs0 xs1 xs2 h0 n0 (by omega) V1 (by first | assumption | decide | omega) (by first | assumption | decide | omega) (by first | assumption | decide | omega)) hZ (wd hw 160 rfl) (wd hw 159 rfl) (by decide) (by decide)) (g := (mkF m 8 (la4 (0 : Int32) t1) [(.int 3), (.int 0), (.ref t1)])) rfl (by rw [hml]; rfl) (argsL := [(.ref t1), (.int 0), (.int 3)]) (rest := []) (lenOf pd_1 rfl) rfl (wz rfl) (hb hby d28_8) (fun _ _ => ⟨rfl, e0, (by decide : 0 + 0 ≤ _), (by decide : 0 + 0 ≤ _)⟩)
 dsimp only [Pt.U, Pt.locs, Pt.cells, Pt.slots] at X349 l349 y349 z349 st349 hQ349
 subst l349 y349 z349
 obtain ⟨rfl, N349q, e349⟩ := hQ349
 have N349 := Fr.app N0 N349q
 obtain ⟨T350, h350, X350, e350, E350, A350, D350, st350⟩ := cloneH X349 hx hZ hown (wd hw 161 rfl) (wd hw 162 rfl) (wd hw 166 rfl) (wd hw 164 rfl) (wd hw 165 rfl) (wd hw 167 rfl) e349 (Arv.arh V1) E1 (g := (mkF m 13 (la5 (0 : Int32) t1 (3 : Int32)) [(.ref t1)])) rfl (by rw [hml]; rfl) rfl (hb hby d28_13) (by decide) (W := 0) (cap := 3) (wz rfl) (by decide) (by decide) (by decide) (by decide)
 obtain ⟨b350, g350⟩ : ∃ z, z = h0.size := ⟨_, rfl⟩
 rw [← g350] at A350 D350 st350
 have sz350 : h0.size ≤ h350.size := E350.1
 have V350 : Arv Z h350 b350 k1 .byte (3 : Int32) [(.int xs0), (.int xs1), (.int xs2)] (.int 0) := A350
 have lt350 := ltA V350.lt
 obtain ⟨T351, X351, e351, st351⟩ := castY X350 hx hZ hown (wd hw 168 rfl) e350 (Ins.self D350) (g := (mkF m 16 (la5 (0 : Int32) t1 (3 : Int32)) [(.ref b350)])) rfl rfl (hb hby d28_16)
 obtain ⟨cl352, Ar352, -, S352, M352, -, -⟩ := id V350
 obtain ⟨fs, hr, hrun, hended, hW, hsame⟩ := X351.leave (v := some (.ref b350)) (fun h => by rw [Bd.returns] at h; cases h)
 refine ⟨_, _, pre0 _ ?_, hrun, hended, _, _, rfl, ?_, ⟨_, rfl⟩, hW, hsame.mono (by decide) (by decide)⟩
 ·show GO p e below s₁ (mkF m 0 (la4 (0 : Int32) t1) []) _
  refine XS.iloadN X0.here hx rfl (hb hby d28_0) rfl ?_
  show GO p e below s₁ (mkF m 1 (la4 (0 : Int32) t1) [(.int 0)]) _
  refine XS.ifNo X0.here hx rfl (hb hby d28_1) rfl ((if0 _ _).trans (teq (rfl : (0 : Int32) = (0 : Int32))).2) ?_
  show GO p e below s₁ (mkF m 4 (la4 (0 : Int32) t1) []) _
  refine XS.aloadN X0.here hx rfl (hb hby d28_4) rfl rfl ?_
  show GO p e below s₁ (mkF m 5 (la4 (0 : Int32) t1) [(.ref t1)]) _
  refine XS.iconst X0.here hx rfl (hb hby d28_5) ?_
  show GO p e below s₁ (mkF m 6 (la4 (0 : Int32) t1) [(.int 0), (.ref t1)]) _
  refine XS.aloadN X0.here hx rfl (hb hby d28_6) rfl rfl ?_
  show GO p e below s₁ (mkF m 7 (la4 (0 : Int32) t1) [(.ref t1), (.int 0), (.ref t1)]) _
  refine X0.arraylength hx (by rw [e0]; exact Ar348.1) (State.isArrayOf_alike hZ.alike Ar348.2.1) (g := (mkF m 7 (la4 (0 : Int32) t1) [(.ref t1), (.int 0), (.ref t1)])) rfl rfl (hb hby d28_7) _ ?_
  rw [len_of S348 M348]
  show GO p e below s₁ (mkF m 8 (la4 (0 : Int32) t1) [(.int 3), (.int 0), (.ref t1)]) _
  refine st349 _ ?_
  show GO p e below T349 (mkF m 11 (la4 (0 : Int32) t1) [(.int 3)]) _
  refine XS.istoreN X349.here hx rfl (hb hby d28_11) rfl (l' := (la5 (0 : Int32) t1 (3 : Int32))) rfl ?_
  show GO p e below T349 (mkF m 12 (la5 (0 : Int32) t1 (3 : Int32)) []) _
  refine XS.aloadN X349.here hx rfl (hb hby d28_12) rfl rfl ?_
  show GO p e below T349 (mkF m 13 (la5 (0 : Int32) t1 (3 : Int32)) [(.ref t1)]) _
  refine st350 _ ?_
  show GO p e below T350 (mkF m 16 (la5 (0 : Int32) t1 (3 : Int32)) [(.ref b350)]) _
  refine st351 _ ?_
  show GO p e below T351 (mkF m 19 (la5 (0 : Int32) t1 (3 : Int32)) [(.ref b350)]) _
  refine XS.astoreN X351.here hx rfl (hb hby d28_19) rfl rfl (l' := (la6 (0 : Int32) t1 (3 : Int32) b350)) rfl ?_
  show GO p e below T351 (mkF m 20 (la6 (0 : Int32) t1 (3 : Int32) b350) []) _
  refine XS.iloadN X351.here hx rfl (hb hby d28_20) rfl ?_
  show GO p e below T351 (mkF m 21 (la6 (0 : Int32) t1 (3 : Int32) b350) [(.int 3)]) _
  refine XS.aloadN X351.here hx rfl (hb hby d28_21) rfl rfl ?_
  show GO p e below T351 (mkF m 22 (la6 (0 : Int32) t1 (3 : Int32) b350) [(.ref b350), (.int 3)]) _
  refine X351.arraylength hx (by rw [e351]; exact Ar352.1) (State.isArrayOf_alike hZ.alike Ar352.2.1) (g := (mkF m 22 (la6 (0 : Int32) t1 (3 : Int32) b350) [(.ref b350), (.int 3)])) rfl rfl (hb hby d28_22) _ ?_
  rw [len_of S352 M352]
  show GO p e below T351 (mkF m 23 (la6 (0 : Int32) t1 (3 : Int32) b350) [(.int 3), (.int 3)]) _
  refine XS.icmpYes X351.here hx rfl (pc0 := 23) (pc' := 31) rfl (hb hby d28_23) rfl (flt ((by decide) : ¬ ((3 : Int32) < (3 : Int32)))).2.1 (by decide) (by decide) ?_
  show GO p e below T351 (mkF m 31 (la6 (0 : Int32) t1 (3 : Int32) b350) []) _
  refine XS.aloadN X351.here hx rfl (hb hby d28_31) rfl rfl ?_
  show GO p e below T351 (mkF m 32 (la6 (0 : Int32) t1 (3 : Int32) b350) [(.ref b350)]) _
  exact retOut X351 hx Bd.returns rfl (Or.inr (Or.inr (Or.inr (Or.inr ⟨rfl, rfl, rfl⟩)))) (hb hby d28_32) hr
 ·show Qrm_ea3 Z t1 k1 xs0 xs1 xs2 h0 n0 _ T351.heap _
  rw [e351]
  exact ⟨b350, k1, rfl, N349, ((Keep.refl h0 []).ext E350), V350⟩
def Qrm_enc3 (Z : State) (q0 : Addr) (q1 : Addr) (q2 : Addr) (t1 : Addr) (k1 : ClassId) (xs0 : Int32) (xs1 : Int32) (xs2 : Int32) (h0 : Heap) (n0 : Nat) (v : Option Value) (h : Heap) (L : List Loc) : Prop := ∃ t : Addr, ∃ k : ClassId, v = some (.ref t) ∧ Fr n0 L ∧ Keep h0 h [] ∧ Arv Z h t k .byte (3 : Int32) [(.int xs0), (.int xs1), (.int xs2)] (.int 0)
theorem ef_rm_enc3 (m : MethodId) (x0 : Addr) (x1 : Int32) (x2 : Addr) : entryFrame m #[(.ref x0), (.int x1), (.ref x2)] 3 = mkF m 0 (la7 x0 x1 x2) [] := by first | rfl | (simp [entryFrame, mkF, argsToLocals, Value.category]; done)
theorem rm_enc3 (l : Launch) (Z : State) (a0 : Array Value) (hw : HW Z a0) (ws : List Jvm.Cond) (q0 : Addr) (q1 : Addr) (q2 : Addr) (t1 : Addr) (k1 : ClassId) (xs0 : Int32) (xs1 : Int32) (xs2 : Int32) (h0 : Heap) (n0 : Nat) (Z0 : n0 ≤ h0.size) (O0 : Old Z n0 h0) (E1 : Exa Z h0 t1 "[B") (V1 : Arv Z h0 t1 k1 .byte (3 : Int32) [(.int xs0), (.int xs1), (.int xs2)] (.int 0)) (HC : OwnC Z q0 q1 q2) (hg0 : ¬ xs0 < 0) (hg1 : ¬ xs1 < 0) (hg2 : ¬ xs2 < 0) :
  OwnM l Z h0 (⟨kS1, "encode", "(Ljava/nio/charset/Charset;B[B)[B"⟩ : MethodName) (Jvm.Cond.code (⟨kS1, "encode", "(Ljava/nio/charset/Charset;B[B)[B"⟩ : MethodName) jdk_42_method_18_code 3 (some (.array .byte)) :: ws) (RM 2 1 3 34) #[(.ref q0), (.int 0), (.ref t1)] (Qrm_enc3 Z q0 q1 q2 t1 k1 xs0 xs1 xs2 h0 n0) := by
 refine MetFree.of_bodySF (plainFor_of_name pn_0) hisR ?_
 intro p e s m args below meth c s₁ Bd hml0 hP hK
 obtain ⟨rfl, hZ, hh⟩ := hP
 have hx := Bd.exec
 have hby := Bd.bytes
 have hml : c.maxLocals = 3 := hml0
 have hown : s.vm.findClass kS1 = some m.cls := findClass_of_methodNamed Bd.named
 have hnm := (name_of_methodNamed Bd.named Bd.method).1
 have X0 : Stand p l e (RM 2 1 3 34) s m #[(.ref q0), (.int 0), (.ref t1)] below meth c s₁ [] 0 0 := Stand.of_body Bd
 have e0 : s₁.heap = h0 := by rw [← hh, Bd.state]; rfl
 have N0 := Fr.nil n0
 have pre0 : ∀ t, GO p e below s₁ (mkF m 0 (la7 q0 (0 : Int32) t1) []) t → GO p e below s₁ (entryFrame m #[(.ref q0), (.int 0), (.ref t1)] 3) t := fun t k => castTop (ef_rm_enc3 m q0 ((0 : Int32)) t1) k
 have lt_E1 := ltA E1.lt
 have lt_V1 := ltA V1.lt
 obtain ⟨SZq0, SZqa, SZq1, SZq2, nq1, nq2⟩ := HC
 have S353 : Sta Z h0 "sun/nio/cs/UTF_8" "INSTANCE" "Lsun/nio/cs/UTF_8;" (.ref q1) := SZq1.ext O0.2
 obtain ⟨T354, X354, e354, st354⟩ := getS2 X0 hx hZ hown (host := "") (Or.inl (wd hw 148 rfl)) Via.refl e0 S353 (g := (mkF m 1 (la7 q0 (0 : Int32) t1) [(.ref q0)])) rfl (hb hby d27_1)
 have S355 : Sta Z h0 "sun/nio/cs/ISO_8859_1" "INSTANCE" "Lsun/nio/cs/ISO_8859_1;" (.ref q2) := SZq2.ext O0.2
 obtain ⟨T356, X356, e356, st356⟩ := getS2 X354 hx hZ hown (host := "") (Or.inl (wd hw 150 rfl)) Via.refl e354 S355 (g := (mkF m 15 (la7 q0 (0 : Int32) t1) [(.ref q0)])) rfl (hb hby d27_15)
 have S357 : Sta Z h0 "sun/nio/cs/US_ASCII" "INSTANCE" "Lsun/nio/cs/US_ASCII;" (.ref q0) := SZqa.ext O0.2
 obtain ⟨T358, X358, e358, st358⟩ := getS2 X356 hx hZ hown (host := "") (Or.inl (wd hw 152 rfl)) Via.refl e356 S357 (g := (mkF m 28 (la7 q0 (0 : Int32) t1) [(.ref q0)])) rfl (hb hby d27_28)
 -- pc 36: String.encodeASCII by rm_ea3
 obtain ⟨_, _, ⟨T359, L359, k359, n359⟩, -, X359, ⟨Lc359, hQ359, l359, y359, z359⟩, st359⟩ := Jvm.LawKit.callS X358 hx (y := (⟨kS1, "encodeASCII", "(B[B)[B"⟩ : MethodName)) hown (mvT hZ (wd hw 154 rfl)) (mvT hZ (wd hw 155 rfl)) (mvT hZ (wd hw 3 rfl)) (mvT hZ (wd hw 156 rfl)) (by decide) (backOf (W := 0) (rm_ea3 l Z a0 hw [] t1 k1 xs0 xs1 xs2 h0 n0 (by omega) E1 V1 (by first | assumption | decide | omega) (by first | assumption | decide | omega) (by first | assumption | decide | omega)) hZ (wd hw 156 rfl) (wd hw 3 rfl) (by decide) (by decide)) (g := (mkF m 36 (la7 q0 (0 : Int32) t1) [(.ref t1), (.int 0)])) rfl (by rw [hml]; rfl) (argsL := [(.int 0), (.ref t1)]) (rest := []) (lenOf pd_2 rfl) rfl (wz rfl) (hb hby d27_36) (fun _ _ => ⟨rfl, e358, (by decide : 0 + 1 ≤ _), (by decide : 0 + 3 ≤ _)⟩)
 dsimp only [Pt.U, Pt.locs, Pt.cells, Pt.slots] at X359 l359 y359 z359 st359 hQ359
 subst l359 y359 z359
 obtain ⟨h359, e359⟩ : ∃ z, T359.heap = z := ⟨_, rfl⟩
 rw [e359] at hQ359
 obtain ⟨t_359, k_359, rfl, N359q, K359, p359_0⟩ := hQ359
 have N359 := Fr.app N0 N359q
 have sz359 : h0.size ≤ h359.size := K359.1
 have lt359_0 := ltA p359_0.lt
 obtain ⟨fs, hr, hrun, hended, hW, hsame⟩ := X359.leave (v := some (.ref t_359)) (fun h => by rw [Bd.returns] at h; cases h)
 refine ⟨_, _, pre0 _ ?_, hrun, hended, _, _, rfl, ?_, ⟨_, rfl⟩, hW, hsame.mono (by decide) (by decide)⟩
 ·show GO p e below s₁ (mkF m 0 (la7 q0 (0 : Int32) t1) []) _
  refine XS.aloadN X0.here hx rfl (hb hby d27_0) rfl rfl ?_
  show GO p e below s₁ (mkF m 1 (la7 q0 (0 : Int32) t1) [(.ref q0)]) _
  refine st354 _ ?_
  show GO p e below T354 (mkF m 4 (la7 q0 (0 : Int32) t1) [(.ref q1), (.ref q0)]) _
  refine Jvm.RoadKit.acmp (g := (mkF m 4 (la7 q0 (0 : Int32) t1) [(.ref q1), (.ref q0)])) X354 hx rfl rfl rfl (pc0 := 4) (pc' := 14) (same := false) rfl (hb hby d27_4) rfl (decide_eq_false fun q => absurd (Value.ref.inj q) nq1) (by decide) (by decide) ?_
  show GO p e below T354 (mkF m 14 (la7 q0 (0 : Int32) t1) []) _
  refine XS.aloadN X354.here hx rfl (hb hby d27_14) rfl rfl ?_
  show GO p e below T354 (mkF m 15 (la7 q0 (0 : Int32) t1) [(.ref q0)]) _
  refine st356 _ ?_
  show GO p e below T356 (mkF m 18 (la7 q0 (0 : Int32) t1) [(.ref q2), (.ref q0)]) _
  refine Jvm.RoadKit.acmp (g := (mkF m 18 (la7 q0 (0 : Int32) t1) [(.ref q2), (.ref q0)])) X356 hx rfl rfl rfl (pc0 := 18) (pc' := 27) (same := false) rfl (hb hby d27_18) rfl (decide_eq_false fun q => absurd (Value.ref.inj q) nq2) (by decide) (by decide) ?_
  show GO p e below T356 (mkF m 27 (la7 q0 (0 : Int32) t1) []) _
  refine XS.aloadN X356.here hx rfl (hb hby d27_27) rfl rfl ?_
  show GO p e below T356 (mkF m 28 (la7 q0 (0 : Int32) t1) [(.ref q0)]) _
  refine st358 _ ?_
  show GO p e below T358 (mkF m 31 (la7 q0 (0 : Int32) t1) [(.ref q0), (.ref q0)]) _
  refine Jvm.RoadKit.acmp (g := (mkF m 31 (la7 q0 (0 : Int32) t1) [(.ref q0), (.ref q0)])) X358 hx rfl rfl rfl (pc0 := 31) (pc' := 34) (same := true) rfl (hb hby d27_31) rfl (decide_eq_true rfl) (by decide) (by decide) ?_
  show GO p e below T358 (mkF m 34 (la7 q0 (0 : Int32) t1) []) _
  refine XS.iloadN X358.here hx rfl (hb hby d27_34) rfl ?_
  show GO p e below T358 (mkF m 35 (la7 q0 (0 : Int32) t1) [(.int 0)]) _
  refine XS.aloadN X358.here hx rfl (hb hby d27_35) rfl rfl ?_
  show GO p e below T358 (mkF m 36 (la7 q0 (0 : Int32) t1) [(.ref t1), (.int 0)]) _
  refine st359 _ ?_
  show GO p e below T359 (mkF m 39 (la7 q0 (0 : Int32) t1) [(.ref t_359)]) _
  exact retOut X359 hx Bd.returns rfl (Or.inr (Or.inr (Or.inr (Or.inr ⟨rfl, rfl, rfl⟩)))) (hb hby d27_39) hr
 ·show Qrm_enc3 Z q0 q1 q2 t1 k1 xs0 xs1 xs2 h0 n0 _ T359.heap _
  rw [e359]
  exact ⟨t_359, k_359, rfl, N359, ((Keep.refl h0 []).trans K359 all0), p359_0⟩
def Qrm_gbc3 (Z : State) (q0 : Addr) (q1 : Addr) (q2 : Addr) (x1 : Addr) (t1 : Addr) (k1 : ClassId) (xs0 : Int32) (xs1 : Int32) (xs2 : Int32) (z0 : Int32) (h0 : Heap) (n0 : Nat) (v : Option Value) (h : Heap) (L : List Loc) : Prop := ∃ t : Addr, ∃ k : ClassId, v = some (.ref t) ∧ Fr n0 L ∧ Keep h0 h [] ∧ Arv Z h t k .byte (3 : Int32) [(.int xs0), (.int xs1), (.int xs2)] (.int 0)
theorem ef_rm_gbc3 (m : MethodId) (x0 : Addr) (x1 : Addr) : entryFrame m #[(.ref x0), (.ref x1)] 2 = mkF m 0 #[.val (.ref x0), .val (.ref x1)] [] := by first | rfl | (simp [entryFrame, mkF, argsToLocals, Value.category]; done)
theorem rm_gbc3 (l : Launch) (Z : State) (a0 : Array Value) (hw : HW Z a0) (ws : List Jvm.Cond) (q0 : Addr) (q1 : Addr) (q2 : Addr) (x1 : Addr) (t1 : Addr) (k1 : ClassId) (xs0 : Int32) (xs1 : Int32) (xs2 : Int32) (z0 : Int32) (h0 : Heap) (n0 : Nat) (Z0 : n0 ≤ h0.size) (O0 : Old Z n0 h0) (Esx1 : Exa Z h0 x1 kS1) (Fcx1 : Fld Z h0 x1 kS1 "coder" "B" (.int 0)) (Fvx1 : Fld Z h0 x1 kS1 "value" "[B" (.ref t1)) (Vsx1 : Arv Z h0 t1 k1 .byte (3 : Int32) [(.int xs0), (.int xs1), (.int xs2)] (.int 0)) (E1 : Exa Z h0 t1 "[B") (SZc : Sta Z Z.heap kS1 "COMPACT_STRINGS" "Z" (.int z0)) (hz0 : ¬ z0 = 0) (HC : OwnC Z q0 q1 q2) (hg0 : ¬ xs0 < 0) (hg1 : ¬ xs1 < 0) (hg2 : ¬ xs2 < 0) :
  OwnM l Z h0 (⟨kS1, "getBytes", "(Ljava/nio/charset/Charset;)[B"⟩ : MethodName) (Jvm.Cond.code (⟨kS1, "getBytes", "(Ljava/nio/charset/Charset;)[B"⟩ : MethodName) jdk_42_method_64_code 2 (some (.array .byte)) :: ws) (RM 3 1 3 48) #[(.ref x1), (.ref q0)] (Qrm_gbc3 Z q0 q1 q2 x1 t1 k1 xs0 xs1 xs2 z0 h0 n0) := by
 refine MetFree.of_bodySF (plainFor_of_name pn_0) hisR ?_
 intro p e s m args below meth c s₁ Bd hml0 hP hK
 obtain ⟨rfl, hZ, hh⟩ := hP
 have hx := Bd.exec
 have hby := Bd.bytes
 have hml : c.maxLocals = 2 := hml0
 have hown : s.vm.findClass kS1 = some m.cls := findClass_of_methodNamed Bd.named
 have hnm := (name_of_methodNamed Bd.named Bd.method).1
 have X0 : Stand p l e (RM 3 1 3 48) s m #[(.ref x1), (.ref q0)] below meth c s₁ [] 0 0 := Stand.of_body Bd
 have e0 : s₁.heap = h0 := by rw [← hh, Bd.state]; rfl
 have N0 := Fr.nil n0
 have pre0 : ∀ t, GO p e below s₁ (mkF m 0 #[.val (.ref x1), .val (.ref q0)] []) t → GO p e below s₁ (entryFrame m #[(.ref x1), (.ref q0)] 2) t := fun t k => castTop (ef_rm_gbc3 m x1 q0) k
 have lt_Esx1 := ltA Esx1.lt
 have lt_Fcx1 := ltA Fcx1.lt
 have lt_Fvx1 := ltA Fvx1.lt
 have lt_Vsx1 := ltA Vsx1.lt
 have lt_E1 := ltA E1.lt
 -- pc 14: String.coder by rm_sc
 obtain ⟨cq360, kq360, q360a, q360b, q360c⟩ := isOf hZ e0 Esx1
 obtain ⟨_, _, ⟨T360, L360, k360, n360⟩, -, X360, ⟨Lc360, hQ360, l360, y360, z360⟩, st360⟩ := X0.virtualBack hx (y := (⟨kS1, "coder", "()B"⟩ : MethodName)) (z := (⟨kS1, "coder", "()B"⟩ : MethodName)) hown (mvT hZ (wd hw 59 rfl)) (mvT hZ (wd hw 60 rfl)) (notFace_of_selects (args := #[]) (mvT hZ (wd hw 62 rfl))) (mvT hZ (wd hw 62 rfl)) (mvT hZ (wd hw 61 rfl)) (by decide) (backOf (W := 1) (rm_sc l Z a0 hw [] x1 z0 h0 n0 (by omega) O0 Fcx1 (by first | assumption | decide | omega) (by first | assumption | decide | omega)) hZ (wd hw 63 rfl) (wd hw 3 rfl) (by decide) (by decide)) q360a q360c (g := (mkF m 14 #[.val (.ref x1), .val (.ref q0)] [(.ref x1), (.ref q0)])) rfl (by rw [hml]; rfl) (Steps.refl _) (argsL := []) (rest := [(.ref q0)]) (lenOf pd_3 rfl) rfl (wz rfl) (hb hby d26_14) (fun _ _ => ⟨rfl, e0, (by decide : 0 + 0 ≤ _), (by decide : 0 + 0 ≤ _)⟩)
 dsimp only [Pt.U, Pt.locs, Pt.cells, Pt.slots] at X360 l360 y360 z360 st360 hQ360
 subst l360 y360 z360
 obtain ⟨rfl, N360q, e360⟩ := hQ360
 have N360 := Fr.app N0 N360q
 obtain ⟨T361, X361, e361, st361⟩ := getF X360 hx hZ hown (host := "") (Or.inl (wd hw 20 rfl)) Via.refl e360 Fvx1 (g := (mkF m 18 #[.val (.ref x1), .val (.ref q0)] [(.ref x1), (.int 0), (.ref q0)])) rfl rfl (hb hby d26_18)
 -- pc 21: String.encode by rm_enc3
 obtain ⟨_, _, ⟨T362, L362, k362, n362⟩, -, X362, ⟨Lc362, hQ362, l362, y362, z362⟩, st362⟩ := Jvm.LawKit.callS X361 hx (y := (⟨kS1, "encode", "(Ljava/nio/charset/Charset;B[B)[B"⟩ : MethodName)) hown (mvT hZ (wd hw 145 rfl)) (mvT hZ (wd hw 146 rfl)) (mvT hZ (wd hw 3 rfl)) (mvT hZ (wd hw 147 rfl)) (by decide) (backOf (W := 0) (rm_enc3 l Z a0 hw [] q0 q1 q2 t1 k1 xs0 xs1 xs2 h0 n0 (by omega) O0 E1 Vsx1 (by first | assumption | decide | omega) (by first | assumption | decide | omega) (by first | assumption | decide | omega) (by first | assumption | decide | omega)) hZ (wd hw 147 rfl) (wd hw 3 rfl) (by decide) (by decide)) (g := (mkF m 21 #[.val (.ref x1), .val (.ref q0)] [(.ref t1), (.int 0), (.ref q0)])) rfl (by rw [hml]; rfl) (argsL := [(.ref q0), (.int 0), (.ref t1)]) (rest := []) (lenOf pd_4 rfl) rfl (wz rfl) (hb hby d26_21) (fun _ _ => ⟨rfl, e361, (by decide : 0 + 1 ≤ _), (by decide : 0 + 3 ≤ _)⟩)
 dsimp only [Pt.U, Pt.locs, Pt.cells, Pt.slots] at X362 l362 y362 z362 st362 hQ362
 subst l362 y362 z362
 obtain ⟨h362, e362⟩ : ∃ z, T362.heap = z := ⟨_, rfl⟩
 rw [e362] at hQ362
 obtain ⟨t_362, k_362, rfl, N362q, K362, p362_0⟩ := hQ362
 have N362 := Fr.app N360 N362q
 have sz362 : h0.size ≤ h362.size := K362.1
 have lt362_0 := ltA p362_0.lt
 obtain ⟨fs, hr, hrun, hended, hW, hsame⟩ := X362.leave (v := some (.ref t_362)) (fun h => by rw [Bd.returns] at h; cases h)
 refine ⟨_, _, pre0 _ ?_, hrun, hended, _, _, rfl, ?_, ⟨_, rfl⟩, hW, hsame.mono (by decide) (by decide)⟩
 ·show GO p e below s₁ (mkF m 0 #[.val (.ref x1), .val (.ref q0)] []) _
  refine XS.aloadN X0.here hx rfl (hb hby d26_0) rfl rfl ?_
  show GO p e below s₁ (mkF m 1 #[.val (.ref x1), .val (.ref q0)] [(.ref q0)]) _
  refine XS.ifnonnullYes X0.here hx rfl (pc0 := 1) (pc' := 12) rfl (hb hby d26_1) rfl (by decide) (by decide) ?_
  show GO p e below s₁ (mkF m 12 #[.val (.ref x1), .val (.ref q0)] []) _
  refine XS.aloadN X0.here hx rfl (hb hby d26_12) rfl rfl ?_
  show GO p e below s₁ (mkF m 13 #[.val (.ref x1), .val (.ref q0)] [(.ref q0)]) _
  refine XS.aloadN X0.here hx rfl (hb hby d26_13) rfl rfl ?_
  show GO p e below s₁ (mkF m 14 #[.val (.ref x1), .val (.ref q0)] [(.ref x1), (.ref q0)]) _
  refine st360.trans ?_
  show GO p e below T360 (mkF m 17 #[.val (.ref x1), .val (.ref q0)] [(.int 0), (.ref q0)]) _
  refine XS.aloadN X360.here hx rfl (hb hby d26_17) rfl rfl ?_
  show GO p e below T360 (mkF m 18 #[.val (.ref x1), .val (.ref q0)] [(.ref x1), (.int 0), (.ref q0)]) _
  refine st361 _ ?_
  show GO p e below T361 (mkF m 21 #[.val (.ref x1), .val (.ref q0)] [(.ref t1), (.int 0), (.ref q0)]) _
  refine st362 _ ?_
  show GO p e below T362 (mkF m 24 #[.val (.ref x1), .val (.ref q0)] [(.ref t_362)]) _
  exact retOut X362 hx Bd.returns rfl (Or.inr (Or.inr (Or.inr (Or.inr ⟨rfl, rfl, rfl⟩)))) (hb hby d26_24) hr
 ·show Qrm_gbc3 Z q0 q1 q2 x1 t1 k1 xs0 xs1 xs2 z0 h0 n0 _ T362.heap _
  rw [e362]
  exact ⟨t_362, k_362, rfl, N362, ((Keep.refl h0 []).trans K362 all0), p362_0⟩
def Qrm_sl2 (Z : State) (x1 : Addr) (t1 : Addr) (k1 : ClassId) (xs0 : Int32) (xs1 : Int32) (z0 : Int32) (h0 : Heap) (n0 : Nat) (v : Option Value) (h : Heap) (L : List Loc) : Prop := v = some (.int 2) ∧ Fr n0 L ∧ h = h0
theorem ef_rm_sl2 (m : MethodId) (x0 : Addr) : entryFrame m #[(.ref x0)] 1 = mkF m 0 #[.val (.ref x0)] [] := by first | rfl | (simp [entryFrame, mkF, argsToLocals, Value.category]; done)
theorem rm_sl2 (l : Launch) (Z : State) (a0 : Array Value) (hw : HW Z a0) (ws : List Jvm.Cond) (x1 : Addr) (t1 : Addr) (k1 : ClassId) (xs0 : Int32) (xs1 : Int32) (z0 : Int32) (h0 : Heap) (n0 : Nat) (Z0 : n0 ≤ h0.size) (O0 : Old Z n0 h0) (Esx1 : Exa Z h0 x1 kS1) (Fcx1 : Fld Z h0 x1 kS1 "coder" "B" (.int 0)) (Fvx1 : Fld Z h0 x1 kS1 "value" "[B" (.ref t1)) (Vsx1 : Arv Z h0 t1 k1 .byte (2 : Int32) [(.int xs0), (.int xs1)] (.int 0)) (SZc : Sta Z Z.heap kS1 "COMPACT_STRINGS" "Z" (.int z0)) (hz0 : ¬ z0 = 0) :
  OwnM l Z h0 (⟨kS1, "length", "()I"⟩ : MethodName) (Jvm.Cond.code (⟨kS1, "length", "()I"⟩ : MethodName) jdk_42_method_54_code 1 (some .int) :: ws) (RM 1 0 0 13) #[(.ref x1)] (Qrm_sl2 Z x1 t1 k1 xs0 xs1 z0 h0 n0) := by
 refine MetFree.of_bodySF (plainFor_of_name pn_0) hisR ?_
 intro p e s m args below meth c s₁ Bd hml0 hP hK
 obtain ⟨rfl, hZ, hh⟩ := hP
 have hx := Bd.exec
 have hby := Bd.bytes
 have hml : c.maxLocals = 1 := hml0
 have hown : s.vm.findClass kS1 = some m.cls := findClass_of_methodNamed Bd.named
 have hnm := (name_of_methodNamed Bd.named Bd.method).1
 have X0 : Stand p l e (RM 1 0 0 13) s m #[(.ref x1)] below meth c s₁ [] 0 0 := Stand.of_body Bd
 have e0 : s₁.heap = h0 := by rw [← hh, Bd.state]; rfl
 have N0 := Fr.nil n0
 have pre0 : ∀ t, GO p e below s₁ (mkF m 0 #[.val (.ref x1)] []) t → GO p e below s₁ (entryFrame m #[(.ref x1)] 1) t := fun t k => castTop (ef_rm_sl2 m x1) k
 have lt_Esx1 := ltA Esx1.lt
 have lt_Fcx1 := ltA Fcx1.lt
 have lt_Fvx1 := ltA Fvx1.lt
 have lt_Vsx1 := ltA Vsx1.lt
 obtain ⟨T363, X363, e363, st363⟩ := getF X0 hx hZ hown (host := "") (Or.inl (wd hw 20 rfl)) Via.refl e0 Fvx1 (g := (mkF m 1 #[.val (.ref x1)] [(.ref x1)])) rfl rfl (hb hby d9_1)
 obtain ⟨cl364, Ar364, -, S364, M364, -, -⟩ := id Vsx1
 -- pc 6: String.coder by rm_sc
 obtain ⟨cq365, kq365, q365a, q365b, q365c⟩ := isOf hZ e363 Esx1
 obtain ⟨_, _, ⟨T365, L365, k365, n365⟩, -, X365, ⟨Lc365, hQ365, l365, y365, z365⟩, st365⟩ := X363.virtualBack hx (y := (⟨kS1, "coder", "()B"⟩ : MethodName)) (z := (⟨kS1, "coder", "()B"⟩ : MethodName)) hown (mvT hZ (wd hw 59 rfl)) (mvT hZ (wd hw 60 rfl)) (notFace_of_selects (args := #[]) (mvT hZ (wd hw 62 rfl))) (mvT hZ (wd hw 62 rfl)) (mvT hZ (wd hw 61 rfl)) (by decide) (backOf (W := 1) (rm_sc l Z a0 hw [] x1 z0 h0 n0 (by omega) O0 Fcx1 (by first | assumption | decide | omega) (by first | assumption | decide | omega)) hZ (wd hw 63 rfl) (wd hw 3 rfl) (by decide) (by decide)) q365a q365c (g := (mkF m 6 #[.val (.ref x1)] [(.ref x1), (.int 2)])) rfl (by rw [hml]; rfl) (Steps.refl _) (argsL := []) (rest := [(.int 2)]) (lenOf pd_3 rfl) rfl (wz rfl) (hb hby d9_6) (fun _ _ => ⟨rfl, e363, (by decide : 0 + 0 ≤ _), (by decide : 0 + 0 ≤ _)⟩)
 dsimp only [Pt.U, Pt.locs, Pt.cells, Pt.slots] at X365 l365 y365 z365 st365 hQ365
 subst l365 y365 z365
 obtain ⟨rfl, N365q, e365⟩ := hQ365
 have N365 := Fr.app N0 N365q
 obtain ⟨fs, hr, hrun, hended, hW, hsame⟩ := X365.leave (v := some (.int 2)) (fun h => by rw [Bd.returns] at h; cases h)
 refine ⟨_, _, pre0 _ ?_, hrun, hended, _, _, rfl, ?_, ⟨_, rfl⟩, hW, hsame.mono (by decide) (by decide)⟩
 ·show GO p e below s₁ (mkF m 0 #[.val (.ref x1)] []) _
  refine XS.aloadN X0.here hx rfl (hb hby d9_0) rfl rfl ?_
  show GO p e below s₁ (mkF m 1 #[.val (.ref x1)] [(.ref x1)]) _
  refine st363 _ ?_
  show GO p e below T363 (mkF m 4 #[.val (.ref x1)] [(.ref t1)]) _
  refine X363.arraylength hx (by rw [e363]; exact Ar364.1) (State.isArrayOf_alike hZ.alike Ar364.2.1) (g := (mkF m 4 #[.val (.ref x1)] [(.ref t1)])) rfl rfl (hb hby d9_4) _ ?_
  rw [len_of S364 M364]
  show GO p e below T363 (mkF m 5 #[.val (.ref x1)] [(.int 2)]) _
  refine XS.aloadN X363.here hx rfl (hb hby d9_5) rfl rfl ?_
  show GO p e below T363 (mkF m 6 #[.val (.ref x1)] [(.ref x1), (.int 2)]) _
  refine st365.trans ?_
  show GO p e below T365 (mkF m 9 #[.val (.ref x1)] [(.int 0), (.int 2)]) _
  refine XS.ishr X365.here hx rfl (hb hby d9_9) rfl ?_
  rw [show ((2 : Int32) >>> ((0 : Int32) &&& 31)) = (2 : Int32) from by decide]
  show GO p e below T365 (mkF m 10 #[.val (.ref x1)] [(.int 2)]) _
  exact retI X365 hx Bd.returns (hb hby d9_10) hr
 ·show Qrm_sl2 Z x1 t1 k1 xs0 xs1 z0 h0 n0 _ T365.heap _
  rw [e365]
  exact ⟨rfl, N365, rfl⟩
def Qrm_gb_2_0_16 (Z : State) (x1 : Addr) (t1 : Addr) (k1 : ClassId) (xs0 : Int32) (xs1 : Int32) (d1 : Addr) (kd : ClassId) (z0 : Int32) (h0 : Heap) (n0 : Nat) (v : Option Value) (h : Heap) (L : List Loc) : Prop := v = none ∧ Fr n0 L ∧ Keep h0 h [d1] ∧ Arv Z h d1 kd .byte (16 : Int32) [(.int xs0), (.int xs1), (.int 0), (.int 0), (.int 0), (.int 0), (.int 0), (.int 0), (.int 0), (.int 0), (.int 0), (.int 0), (.int 0), (.int 0), (.int 0), (.int 0)] (.int 0)
theorem ef_rm_gb_2_0_16 (m : MethodId) (x0 : Addr) (x1 : Addr) (x2 : Int32) (x3 : Int32) : entryFrame m #[(.ref x0), (.ref x1), (.int x2), (.int x3)] 4 = mkF m 0 (la10 x0 x1 x2 x3) [] := by first | rfl | (simp [entryFrame, mkF, argsToLocals, Value.category]; done)
theorem rm_gb_2_0_16 (l : Launch) (Z : State) (a0 : Array Value) (hw : HW Z a0) (ws : List Jvm.Cond) (x1 : Addr) (t1 : Addr) (k1 : ClassId) (xs0 : Int32) (xs1 : Int32) (d1 : Addr) (kd : ClassId) (z0 : Int32) (h0 : Heap) (n0 : Nat) (Z0 : n0 ≤ h0.size) (O0 : Old Z n0 h0) (Esx1 : Exa Z h0 x1 kS1) (Fcx1 : Fld Z h0 x1 kS1 "coder" "B" (.int 0)) (Fvx1 : Fld Z h0 x1 kS1 "value" "[B" (.ref t1)) (Vsx1 : Arv Z h0 t1 k1 .byte (2 : Int32) [(.int xs0), (.int xs1)] (.int 0)) (Vd : Arv Z h0 d1 kd .byte (16 : Int32) [(.int 0), (.int 0), (.int 0), (.int 0), (.int 0), (.int 0), (.int 0), (.int 0), (.int 0), (.int 0), (.int 0), (.int 0), (.int 0), (.int 0), (.int 0), (.int 0)] (.int 0)) (SZc : Sta Z Z.heap kS1 "COMPACT_STRINGS" "Z" (.int z0)) (hz0 : ¬ z0 = 0) (gd : n0 ≤ d1) (ned : t1 ≠ d1) :
  OwnM l Z h0 (⟨kS1, "getBytes", "([BIB)V"⟩ : MethodName) (Jvm.Cond.code (⟨kS1, "getBytes", "([BIB)V"⟩ : MethodName) jdk_42_method_147_code 4 none :: ws) (RM 1 0 0 18) #[(.ref x1), (.ref d1), (.int 0), (.int 0)] (Qrm_gb_2_0_16 Z x1 t1 k1 xs0 xs1 d1 kd z0 h0 n0) := by
 refine MetFree.of_bodySF (plainFor_of_name pn_0) hisR ?_
 intro p e s m args below meth c s₁ Bd hml0 hP hK
 obtain ⟨rfl, hZ, hh⟩ := hP
 have hx := Bd.exec
 have hby := Bd.bytes
 have hml : c.maxLocals = 4 := hml0
 have hown : s.vm.findClass kS1 = some m.cls := findClass_of_methodNamed Bd.named
 have hnm := (name_of_methodNamed Bd.named Bd.method).1
 have X0 : Stand p l e (RM 1 0 0 18) s m #[(.ref x1), (.ref d1), (.int 0), (.int 0)] below meth c s₁ [] 0 0 := Stand.of_body Bd
 have e0 : s₁.heap = h0 := by rw [← hh, Bd.state]; rfl
 have N0 := Fr.nil n0
 have pre0 : ∀ t, GO p e below s₁ (mkF m 0 (la10 x1 d1 (0 : Int32) (0 : Int32)) []) t → GO p e below s₁ (entryFrame m #[(.ref x1), (.ref d1), (.int 0), (.int 0)] 4) t := fun t k => castTop (ef_rm_gb_2_0_16 m x1 d1 ((0 : Int32)) ((0 : Int32))) k
 have lt_Esx1 := ltA Esx1.lt
 have lt_Fcx1 := ltA Fcx1.lt
 have lt_Fvx1 := ltA Fvx1.lt
 have lt_Vsx1 := ltA Vsx1.lt
 have lt_Vd := ltA Vd.lt
 -- pc 1: String.coder by rm_sc
 obtain ⟨cq366, kq366, q366a, q366b, q366c⟩ := isOf hZ e0 Esx1
 obtain ⟨_, _, ⟨T366, L366, k366, n366⟩, -, X366, ⟨Lc366, hQ366, l366, y366, z366⟩, st366⟩ := X0.virtualBack hx (y := (⟨kS1, "coder", "()B"⟩ : MethodName)) (z := (⟨kS1, "coder", "()B"⟩ : MethodName)) hown (mvT hZ (wd hw 59 rfl)) (mvT hZ (wd hw 60 rfl)) (notFace_of_selects (args := #[]) (mvT hZ (wd hw 62 rfl))) (mvT hZ (wd hw 62 rfl)) (mvT hZ (wd hw 61 rfl)) (by decide) (backOf (W := 0) (rm_sc l Z a0 hw [] x1 z0 h0 n0 (by omega) O0 Fcx1 (by first | assumption | decide | omega) (by first | assumption | decide | omega)) hZ (wd hw 63 rfl) (wd hw 3 rfl) (by decide) (by decide)) q366a q366c (g := (mkF m 1 (la10 x1 d1 (0 : Int32) (0 : Int32)) [(.ref x1)])) rfl (by rw [hml]; rfl) (Steps.refl _) (argsL := []) (rest := []) (lenOf pd_3 rfl) rfl (wz rfl) (hb hby d14_1) (fun _ _ => ⟨rfl, e0, (by decide : 0 + 0 ≤ _), (by decide : 0 + 0 ≤ _)⟩)
 dsimp only [Pt.U, Pt.locs, Pt.cells, Pt.slots] at X366 l366 y366 z366 st366 hQ366
 subst l366 y366 z366
 obtain ⟨rfl, N366q, e366⟩ := hQ366
 have N366 := Fr.app N0 N366q
 obtain ⟨T367, X367, e367, st367⟩ := getF X366 hx hZ hown (host := "") (Or.inl (wd hw 20 rfl)) Via.refl e366 Fvx1 (g := (mkF m 9 (la10 x1 d1 (0 : Int32) (0 : Int32)) [(.ref x1)])) rfl rfl (hb hby d14_9)
 obtain ⟨T368, X368, e368, st368⟩ := getF X367 hx hZ hown (host := "") (Or.inl (wd hw 20 rfl)) Via.refl e367 Fvx1 (g := (mkF m 18 (la10 x1 d1 (0 : Int32) (0 : Int32)) [(.ref x1), (.int 0), (.ref d1), (.int 0), (.ref t1)])) rfl rfl (hb hby d14_18)
 obtain ⟨cl369, Ar369, -, S369, M369, -, -⟩ := id Vsx1
 obtain ⟨T370, h370, L370, X370, e370, N370, K370, A370, st370⟩ := cpA X368 hx hZ hown (wd hw 88 rfl) (wd hw 91 rfl) (wd hw 89 rfl) (wd hw 90 rfl) e368 Vsx1 Vd (us := [(.int xs0), (.int xs1)]) (Or.inl ⟨rfl, rfl⟩) (by decide) (by decide) (by decide) (by decide) (by decide) rfl (Nat.le_of_ble_eq_true rfl) N366 (by omega) (g := (mkF m 22 (la10 x1 d1 (0 : Int32) (0 : Int32)) [(.int 2), (.int 0), (.ref d1), (.int 0), (.ref t1)])) rfl (by rw [hml]; rfl) rfl (hb hby d14_22) (by decide) (W := 0) (wz rfl) (by decide)
 have sz370 : h0.size ≤ h370.size := K370.1
 have V370 : Arv Z h370 d1 kd .byte (16 : Int32) [(.int xs0), (.int xs1), (.int 0), (.int 0), (.int 0), (.int 0), (.int 0), (.int 0), (.int 0), (.int 0), (.int 0), (.int 0), (.int 0), (.int 0), (.int 0), (.int 0)] (.int 0) := A370
 obtain ⟨fs, hr, hrun, hended, hW, hsame⟩ := X370.leave (v := none) (fun _ => rfl)
 refine ⟨_, _, pre0 _ ?_, hrun, hended, _, _, rfl, ?_, ⟨_, rfl⟩, hW, hsame.mono (by decide) (by decide)⟩
 ·show GO p e below s₁ (mkF m 0 (la10 x1 d1 (0 : Int32) (0 : Int32)) []) _
  refine XS.aloadN X0.here hx rfl (hb hby d14_0) rfl rfl ?_
  show GO p e below s₁ (mkF m 1 (la10 x1 d1 (0 : Int32) (0 : Int32)) [(.ref x1)]) _
  refine st366.trans ?_
  show GO p e below T366 (mkF m 4 (la10 x1 d1 (0 : Int32) (0 : Int32)) [(.int 0)]) _
  refine XS.iloadN X366.here hx rfl (hb hby d14_4) rfl ?_
  show GO p e below T366 (mkF m 5 (la10 x1 d1 (0 : Int32) (0 : Int32)) [(.int 0), (.int 0)]) _
  refine XS.icmpNo X366.here hx rfl (hb hby d14_5) rfl (teq (rfl : (0 : Int32) = (0 : Int32))).2 ?_
  show GO p e below T366 (mkF m 8 (la10 x1 d1 (0 : Int32) (0 : Int32)) []) _
  refine XS.aloadN X366.here hx rfl (hb hby d14_8) rfl rfl ?_
  show GO p e below T366 (mkF m 9 (la10 x1 d1 (0 : Int32) (0 : Int32)) [(.ref x1)]) _
  refine st367 _ ?_
  show GO p e below T367 (mkF m 12 (la10 x1 d1 (0 : Int32) (0 : Int32)) [(.ref t1)]) _
  refine XS.iconst X367.here hx rfl (hb hby d14_12) ?_
  show GO p e below T367 (mkF m 13 (la10 x1 d1 (0 : Int32) (0 : Int32)) [(.int 0), (.ref t1)]) _
  refine XS.aloadN X367.here hx rfl (hb hby d14_13) rfl rfl ?_
  show GO p e below T367 (mkF m 14 (la10 x1 d1 (0 : Int32) (0 : Int32)) [(.ref d1), (.int 0), (.ref t1)]) _
  refine XS.iloadN X367.here hx rfl (hb hby d14_14) rfl ?_
  show GO p e below T367 (mkF m 15 (la10 x1 d1 (0 : Int32) (0 : Int32)) [(.int 0), (.ref d1), (.int 0), (.ref t1)]) _
  refine XS.iloadN X367.here hx rfl (hb hby d14_15) rfl ?_
  show GO p e below T367 (mkF m 16 (la10 x1 d1 (0 : Int32) (0 : Int32)) [(.int 0), (.int 0), (.ref d1), (.int 0), (.ref t1)]) _
  refine XS.ishl X367.here hx rfl (hb hby d14_16) rfl ?_
  rw [show ((0 : Int32) <<< ((0 : Int32) &&& 31)) = (0 : Int32) from by decide]
  show GO p e below T367 (mkF m 17 (la10 x1 d1 (0 : Int32) (0 : Int32)) [(.int 0), (.ref d1), (.int 0), (.ref t1)]) _
  refine XS.aloadN X367.here hx rfl (hb hby d14_17) rfl rfl ?_
  show GO p e below T367 (mkF m 18 (la10 x1 d1 (0 : Int32) (0 : Int32)) [(.ref x1), (.int 0), (.ref d1), (.int 0), (.ref t1)]) _
  refine st368 _ ?_
  show GO p e below T368 (mkF m 21 (la10 x1 d1 (0 : Int32) (0 : Int32)) [(.ref t1), (.int 0), (.ref d1), (.int 0), (.ref t1)]) _
  refine X368.arraylength hx (by rw [e368]; exact Ar369.1) (State.isArrayOf_alike hZ.alike Ar369.2.1) (g := (mkF m 21 (la10 x1 d1 (0 : Int32) (0 : Int32)) [(.ref t1), (.int 0), (.ref d1), (.int 0), (.ref t1)])) rfl rfl (hb hby d14_21) _ ?_
  rw [len_of S369 M369]
  show GO p e below T368 (mkF m 22 (la10 x1 d1 (0 : Int32) (0 : Int32)) [(.int 2), (.int 0), (.ref d1), (.int 0), (.ref t1)]) _
  refine st370 _ ?_
  show GO p e below T370 (mkF m 25 (la10 x1 d1 (0 : Int32) (0 : Int32)) []) _
  refine XS.goto X370.here hx rfl (pc0 := 25) (pc' := 43) rfl (hb hby d14_25) (by decide) (by decide) ?_
  show GO p e below T370 (mkF m 43 (la10 x1 d1 (0 : Int32) (0 : Int32)) []) _
  exact X370.returnOut hx Bd.returns (hb hby d14_43) hr
 ·show Qrm_gb_2_0_16 Z x1 t1 k1 xs0 xs1 d1 kd z0 h0 n0 _ T370.heap _
  rw [e370]
  exact ⟨rfl, N370, ((Keep.refl h0 [d1]).trans K370 (allS (P := fun x => x ∈ _ ∨ _) (Or.inl (List.mem_of_getElem? (i := 0) rfl)) all0)), V370⟩
def Qrm_ps_2_0_16 (Z : State) (x1 : Addr) (t1 : Addr) (k1 : ClassId) (xs0 : Int32) (xs1 : Int32) (a1 : Addr) (d1 : Addr) (kd : ClassId) (z0 : Int32) (h0 : Heap) (n0 : Nat) (v : Option Value) (h : Heap) (L : List Loc) : Prop := v = none ∧ Fr n0 L ∧ Keep h0 h [d1] ∧ Arv Z h d1 kd .byte (16 : Int32) [(.int xs0), (.int xs1), (.int 0), (.int 0), (.int 0), (.int 0), (.int 0), (.int 0), (.int 0), (.int 0), (.int 0), (.int 0), (.int 0), (.int 0), (.int 0), (.int 0)] (.int 0)
theorem ef_rm_ps_2_0_16 (m : MethodId) (x0 : Addr) (x1 : Int32) (x2 : Addr) : entryFrame m #[(.ref x0), (.int x1), (.ref x2)] 3 = mkF m 0 (la7 x0 x1 x2) [] := by first | rfl | (simp [entryFrame, mkF, argsToLocals, Value.category]; done)
theorem rm_ps_2_0_16 (l : Launch) (Z : State) (a0 : Array Value) (hw : HW Z a0) (ws : List Jvm.Cond) (x1 : Addr) (t1 : Addr) (k1 : ClassId) (xs0 : Int32) (xs1 : Int32) (a1 : Addr) (d1 : Addr) (kd : ClassId) (z0 : Int32) (h0 : Heap) (n0 : Nat) (Z0 : n0 ≤ h0.size) (O0 : Old Z n0 h0) (Esx1 : Exa Z h0 x1 kS1) (Fcx1 : Fld Z h0 x1 kS1 "coder" "B" (.int 0)) (Fvx1 : Fld Z h0 x1 kS1 "value" "[B" (.ref t1)) (Vsx1 : Arv Z h0 t1 k1 .byte (2 : Int32) [(.int xs0), (.int xs1)] (.int 0)) (Eb : Exa Z h0 a1 kS2) (Fbv : Fld Z h0 a1 kS0 "value" "[B" (.ref d1)) (Fbc : Fld Z h0 a1 kS0 "coder" "B" (.int 0)) (Fbn : Fld Z h0 a1 kS0 "count" "I" (.int 0)) (Vb : Arv Z h0 d1 kd .byte (16 : Int32) [(.int 0), (.int 0), (.int 0), (.int 0), (.int 0), (.int 0), (.int 0), (.int 0), (.int 0), (.int 0), (.int 0), (.int 0), (.int 0), (.int 0), (.int 0), (.int 0)] (.int 0)) (SZc : Sta Z Z.heap kS1 "COMPACT_STRINGS" "Z" (.int z0)) (hz0 : ¬ z0 = 0) (gd : n0 ≤ d1) (ned : t1 ≠ d1) :
  OwnM l Z h0 (⟨kS0, "putStringAt", "(ILjava/lang/String;)V"⟩ : MethodName) (Jvm.Cond.code (⟨kS0, "putStringAt", "(ILjava/lang/String;)V"⟩ : MethodName) jdk_68_method_73_code 3 none :: ws) (RM 2 0 0 33) #[(.ref a1), (.int 0), (.ref x1)] (Qrm_ps_2_0_16 Z x1 t1 k1 xs0 xs1 a1 d1 kd z0 h0 n0) := by
 refine MetFree.of_bodySF (plainFor_of_name pn_2) hisR ?_
 intro p e s m args below meth c s₁ Bd hml0 hP hK
 obtain ⟨rfl, hZ, hh⟩ := hP
 have hx := Bd.exec
 have hby := Bd.bytes
 have hml : c.maxLocals = 3 := hml0
 have hown : s.vm.findClass kS0 = some m.cls := findClass_of_methodNamed Bd.named
 have hnm := (name_of_methodNamed Bd.named Bd.method).1
 have X0 : Stand p l e (RM 2 0 0 33) s m #[(.ref a1), (.int 0), (.ref x1)] below meth c s₁ [] 0 0 := Stand.of_body Bd
 have e0 : s₁.heap = h0 := by rw [← hh, Bd.state]; rfl
 have N0 := Fr.nil n0
 have pre0 : ∀ t, GO p e below s₁ (mkF m 0 (la7 a1 (0 : Int32) x1) []) t → GO p e below s₁ (entryFrame m #[(.ref a1), (.int 0), (.ref x1)] 3) t := fun t k => castTop (ef_rm_ps_2_0_16 m a1 ((0 : Int32)) x1) k
 have lt_Esx1 := ltA Esx1.lt
 have lt_Fcx1 := ltA Fcx1.lt
 have lt_Fvx1 := ltA Fvx1.lt
 have lt_Vsx1 := ltA Vsx1.lt
 have lt_Eb := ltA Eb.lt
 have lt_Fbv := ltA Fbv.lt
 have lt_Fbc := ltA Fbc.lt
 have lt_Fbn := ltA Fbn.lt
 have lt_Vb := ltA Vb.lt
 -- pc 2: AbstractStringBuilder.inflateIfNeededFor by rm_inf
 obtain ⟨cq371, q371a, q371b⟩ := Eb.cell
 obtain ⟨_, _, ⟨T371, L371, k371, n371⟩, -, X371, ⟨Lc371, hQ371, l371, y371, z371⟩, st371⟩ := X0.privateBack hx (y := (⟨kS0, "inflateIfNeededFor", "(Ljava/lang/String;)V"⟩ : MethodName)) hown (mvT hZ (wd hw 77 rfl)) (mvT hZ (wd hw 78 rfl)) (mvT hZ (own_selfsel (wd hw 80 rfl) (wd hw 79 rfl) (wd hw 78 rfl) (by decide))) (Cond.privateMethod_at (mvP hZ (wd hw 79 rfl) (args := #[]))) (mvT hZ (wd hw 81 rfl)) (by decide) (backOf (W := 0) (rm_inf l Z a0 hw [] a1 x1 z0 h0 n0 (by omega) O0 Fbc Esx1 Fcx1 (by first | assumption | decide | omega) (by first | assumption | decide | omega)) hZ (wd hw 81 rfl) (wd hw 36 rfl) (by decide) (by decide)) (g := (mkF m 2 (la7 a1 (0 : Int32) x1) [(.ref x1), (.ref a1)])) rfl (by rw [hml]; rfl) (Steps.refl _) (a := a1) (by rw [e0]; exact q371a) q371b (argsL := [(.ref x1)]) (rest := []) (lenOf pd_6 rfl) rfl (wz rfl) (hb hby d12_2) (fun _ _ => ⟨rfl, e0, (by decide : 0 + 0 ≤ _), (by decide : 0 + 0 ≤ _)⟩)
 dsimp only [Pt.U, Pt.locs, Pt.cells, Pt.slots] at X371 l371 y371 z371 st371 hQ371
 subst l371 y371 z371
 obtain ⟨rfl, N371q, e371⟩ := hQ371
 have N371 := Fr.app N0 N371q
 obtain ⟨T372, X372, e372, st372⟩ := getF X371 hx hZ hown (host := "") (Or.inl (wd hw 40 rfl)) Via.refl e371 Fbv (g := (mkF m 7 (la7 a1 (0 : Int32) x1) [(.ref a1), (.ref x1)])) rfl rfl (hb hby d12_7)
 obtain ⟨T373, X373, e373, st373⟩ := getF X372 hx hZ hown (host := "") (Or.inl (wd hw 42 rfl)) Via.refl e372 Fbc (g := (mkF m 12 (la7 a1 (0 : Int32) x1) [(.ref a1), (.int 0), (.ref d1), (.ref x1)])) rfl rfl (hb hby d12_12)
 -- pc 15: String.getBytes by rm_gb_2_0_16
 obtain ⟨cq374, kq374, q374a, q374b, q374c⟩ := isOf hZ e373 Esx1
 obtain ⟨_, _, ⟨T374, L374, k374, n374⟩, -, X374, ⟨Lc374, hQ374, l374, y374, z374⟩, st374⟩ := X373.virtualBack hx (y := (⟨kS1, "getBytes", "([BIB)V"⟩ : MethodName)) (z := (⟨kS1, "getBytes", "([BIB)V"⟩ : MethodName)) hown (mvT hZ (wd hw 83 rfl)) (mvT hZ (wd hw 84 rfl)) (notFace_of_selects (args := #[]) (mvT hZ (wd hw 86 rfl))) (mvT hZ (wd hw 86 rfl)) (mvT hZ (wd hw 85 rfl)) (by decide) (backOf (W := 0) (rm_gb_2_0_16 l Z a0 hw [] x1 t1 k1 xs0 xs1 d1 kd z0 h0 n0 (by omega) O0 Esx1 Fcx1 Fvx1 Vsx1 Vb (by first | assumption | decide | omega) (by first | assumption | decide | omega) (by first | assumption | decide | omega) ned) hZ (wd hw 87 rfl) (wd hw 3 rfl) (by decide) (by decide)) q374a q374c (g := (mkF m 15 (la7 a1 (0 : Int32) x1) [(.int 0), (.int 0), (.ref d1), (.ref x1)])) rfl (by rw [hml]; rfl) (Steps.refl _) (argsL := [(.ref d1), (.int 0), (.int 0)]) (rest := []) (lenOf pd_7 rfl) rfl (wz rfl) (hb hby d12_15) (fun _ _ => ⟨rfl, e373, (by decide : 0 + 0 ≤ _), (by decide : 0 + 0 ≤ _)⟩)
 dsimp only [Pt.U, Pt.locs, Pt.cells, Pt.slots] at X374 l374 y374 z374 st374 hQ374
 subst l374 y374 z374
 obtain ⟨h374, e374⟩ : ∃ z, T374.heap = z := ⟨_, rfl⟩
 rw [e374] at hQ374
 obtain ⟨rfl, N374q, K374, p374_0⟩ := hQ374
 have N374 := Fr.app N371 N374q
 have sz374 : h0.size ≤ h374.size := K374.1
 have lt374_0 := ltA p374_0.lt
 obtain ⟨fs, hr, hrun, hended, hW, hsame⟩ := X374.leave (v := none) (fun _ => rfl)
 refine ⟨_, _, pre0 _ ?_, hrun, hended, _, _, rfl, ?_, ⟨_, rfl⟩, hW, hsame.mono (by decide) (by decide)⟩
 ·show GO p e below s₁ (mkF m 0 (la7 a1 (0 : Int32) x1) []) _
  refine XS.aloadN X0.here hx rfl (hb hby d12_0) rfl rfl ?_
  show GO p e below s₁ (mkF m 1 (la7 a1 (0 : Int32) x1) [(.ref a1)]) _
  refine XS.aloadN X0.here hx rfl (hb hby d12_1) rfl rfl ?_
  show GO p e below s₁ (mkF m 2 (la7 a1 (0 : Int32) x1) [(.ref x1), (.ref a1)]) _
  refine st371.trans ?_
  show GO p e below T371 (mkF m 5 (la7 a1 (0 : Int32) x1) []) _
  refine XS.aloadN X371.here hx rfl (hb hby d12_5) rfl rfl ?_
  show GO p e below T371 (mkF m 6 (la7 a1 (0 : Int32) x1) [(.ref x1)]) _
  refine XS.aloadN X371.here hx rfl (hb hby d12_6) rfl rfl ?_
  show GO p e below T371 (mkF m 7 (la7 a1 (0 : Int32) x1) [(.ref a1), (.ref x1)]) _
  refine st372 _ ?_
  show GO p e below T372 (mkF m 10 (la7 a1 (0 : Int32) x1) [(.ref d1), (.ref x1)]) _
  refine XS.iloadN X372.here hx rfl (hb hby d12_10) rfl ?_
  show GO p e below T372 (mkF m 11 (la7 a1 (0 : Int32) x1) [(.int 0), (.ref d1), (.ref x1)]) _
  refine XS.aloadN X372.here hx rfl (hb hby d12_11) rfl rfl ?_
  show GO p e below T372 (mkF m 12 (la7 a1 (0 : Int32) x1) [(.ref a1), (.int 0), (.ref d1), (.ref x1)]) _
  refine st373 _ ?_
  show GO p e below T373 (mkF m 15 (la7 a1 (0 : Int32) x1) [(.int 0), (.int 0), (.ref d1), (.ref x1)]) _
  refine st374.trans ?_
  show GO p e below T374 (mkF m 18 (la7 a1 (0 : Int32) x1) []) _
  exact X374.returnOut hx Bd.returns (hb hby d12_18) hr
 ·show Qrm_ps_2_0_16 Z x1 t1 k1 xs0 xs1 a1 d1 kd z0 h0 n0 _ T374.heap _
  rw [e374]
  exact ⟨rfl, N374, ((Keep.refl h0 [d1]).trans K374 (allS (P := fun x => x ∈ _ ∨ _) (Or.inl (List.mem_of_getElem? (i := 0) rfl)) all0)), p374_0⟩
def Qrm_aa_2_0_16 (Z : State) (x1 : Addr) (t1 : Addr) (k1 : ClassId) (xs0 : Int32) (xs1 : Int32) (a1 : Addr) (d1 : Addr) (kd : ClassId) (z0 : Int32) (h0 : Heap) (n0 : Nat) (v : Option Value) (h : Heap) (L : List Loc) : Prop := v = some (.ref a1) ∧ Fr n0 L ∧ Keep h0 h [a1, d1] ∧ Exa Z h a1 kS2 ∧ Fld Z h a1 kS0 "value" "[B" (.ref d1) ∧ Fld Z h a1 kS0 "coder" "B" (.int 0) ∧ Fld Z h a1 kS0 "count" "I" (.int 2) ∧ Arv Z h d1 kd .byte (16 : Int32) [(.int xs0), (.int xs1), (.int 0), (.int 0), (.int 0), (.int 0), (.int 0), (.int 0), (.int 0), (.int 0), (.int 0), (.int 0), (.int 0), (.int 0), (.int 0), (.int 0)] (.int 0)
theorem ef_rm_aa_2_0_16 (m : MethodId) (x0 : Addr) (x1 : Addr) : entryFrame m #[(.ref x0), (.ref x1)] 3 = mkF m 0 (la11 x0 x1) [] := by first | rfl | (simp [entryFrame, mkF, argsToLocals, Value.category]; done)
theorem rm_aa_2_0_16 (l : Launch) (Z : State) (a0 : Array Value) (hw : HW Z a0) (ws : List Jvm.Cond) (x1 : Addr) (t1 : Addr) (k1 : ClassId) (xs0 : Int32) (xs1 : Int32) (a1 : Addr) (d1 : Addr) (kd : ClassId) (z0 : Int32) (h0 : Heap) (n0 : Nat) (Z0 : n0 ≤ h0.size) (O0 : Old Z n0 h0) (Esx1 : Exa Z h0 x1 kS1) (Fcx1 : Fld Z h0 x1 kS1 "coder" "B" (.int 0)) (Fvx1 : Fld Z h0 x1 kS1 "value" "[B" (.ref t1)) (Vsx1 : Arv Z h0 t1 k1 .byte (2 : Int32) [(.int xs0), (.int xs1)] (.int 0)) (Eb : Exa Z h0 a1 kS2) (Fbv : Fld Z h0 a1 kS0 "value" "[B" (.ref d1)) (Fbc : Fld Z h0 a1 kS0 "coder" "B" (.int 0)) (Fbn : Fld Z h0 a1 kS0 "count" "I" (.int 0)) (Vb : Arv Z h0 d1 kd .byte (16 : Int32) [(.int 0), (.int 0), (.int 0), (.int 0), (.int 0), (.int 0), (.int 0), (.int 0), (.int 0), (.int 0), (.int 0), (.int 0), (.int 0), (.int 0), (.int 0), (.int 0)] (.int 0)) (SZc : Sta Z Z.heap kS1 "COMPACT_STRINGS" "Z" (.int z0)) (hz0 : ¬ z0 = 0) (ga : n0 ≤ a1) (gd : n0 ≤ d1) (ned : t1 ≠ d1) :
  OwnM l Z h0 (⟨kS0, "append", kS3⟩ : MethodName) (Jvm.Cond.code (⟨kS0, "append", kS3⟩ : MethodName) jdk_68_method_22_code 3 (some (.object kS0)) :: ws) (RM 3 0 0 47) #[(.ref a1), (.ref x1)] (Qrm_aa_2_0_16 Z x1 t1 k1 xs0 xs1 a1 d1 kd z0 h0 n0) := by
 refine MetFree.of_bodySF (plainFor_of_name pn_2) hisR ?_
 intro p e s m args below meth c s₁ Bd hml0 hP hK
 obtain ⟨rfl, hZ, hh⟩ := hP
 have hx := Bd.exec
 have hby := Bd.bytes
 have hml : c.maxLocals = 3 := hml0
 have hown : s.vm.findClass kS0 = some m.cls := findClass_of_methodNamed Bd.named
 have hnm := (name_of_methodNamed Bd.named Bd.method).1
 have X0 : Stand p l e (RM 3 0 0 47) s m #[(.ref a1), (.ref x1)] below meth c s₁ [] 0 0 := Stand.of_body Bd
 have e0 : s₁.heap = h0 := by rw [← hh, Bd.state]; rfl
 have N0 := Fr.nil n0
 have pre0 : ∀ t, GO p e below s₁ (mkF m 0 (la11 a1 x1) []) t → GO p e below s₁ (entryFrame m #[(.ref a1), (.ref x1)] 3) t := fun t k => castTop (ef_rm_aa_2_0_16 m a1 x1) k
 have lt_Esx1 := ltA Esx1.lt
 have lt_Fcx1 := ltA Fcx1.lt
 have lt_Fvx1 := ltA Fvx1.lt
 have lt_Vsx1 := ltA Vsx1.lt
 have lt_Eb := ltA Eb.lt
 have lt_Fbv := ltA Fbv.lt
 have lt_Fbc := ltA Fbc.lt
 have lt_Fbn := ltA Fbn.lt
 have lt_Vb := ltA Vb.lt
 -- pc 10: String.length by rm_sl2
 obtain ⟨cq375, kq375, q375a, q375b, q375c⟩ := isOf hZ e0 Esx1
 obtain ⟨_, _, ⟨T375, L375, k375, n375⟩, -, X375, ⟨Lc375, hQ375, l375, y375, z375⟩, st375⟩ := X0.virtualBack hx (y := (⟨kS1, "length", "()I"⟩ : MethodName)) (z := (⟨kS1, "length", "()I"⟩ : MethodName)) hown (mvT hZ (wd hw 54 rfl)) (mvT hZ (wd hw 55 rfl)) (notFace_of_selects (args := #[]) (mvT hZ (wd hw 57 rfl))) (mvT hZ (wd hw 57 rfl)) (mvT hZ (wd hw 56 rfl)) (by decide) (backOf (W := 0) (rm_sl2 l Z a0 hw [] x1 t1 k1 xs0 xs1 z0 h0 n0 (by omega) O0 Esx1 Fcx1 Fvx1 Vsx1 (by first | assumption | decide | omega) (by first | assumption | decide | omega)) hZ (wd hw 58 rfl) (wd hw 3 rfl) (by decide) (by decide)) q375a q375c (g := (mkF m 10 (la11 a1 x1) [(.ref x1)])) rfl (by rw [hml]; rfl) (Steps.refl _) (argsL := []) (rest := []) (lenOf pd_8 rfl) rfl (wz rfl) (hb hby d8_10) (fun _ _ => ⟨rfl, e0, (by decide : 0 + 0 ≤ _), (by decide : 0 + 0 ≤ _)⟩)
 dsimp only [Pt.U, Pt.locs, Pt.cells, Pt.slots] at X375 l375 y375 z375 st375 hQ375
 subst l375 y375 z375
 obtain ⟨rfl, N375q, e375⟩ := hQ375
 have N375 := Fr.app N0 N375q
 obtain ⟨T376, X376, e376, st376⟩ := getF X375 hx hZ hown (host := "") (Or.inl (wd hw 65 rfl)) Via.refl e375 Fbn (g := (mkF m 16 (la12 a1 x1 (2 : Int32)) [(.ref a1), (.ref a1)])) rfl rfl (hb hby d8_16)
 -- pc 21: AbstractStringBuilder.ensureCapacityInternal by rm_en_16
 obtain ⟨cq377, q377a, q377b⟩ := Eb.cell
 obtain ⟨_, _, ⟨T377, L377, k377, n377⟩, -, X377, ⟨Lc377, hQ377, l377, y377, z377⟩, st377⟩ := X376.privateBack hx (y := (⟨kS0, "ensureCapacityInternal", "(I)V"⟩ : MethodName)) hown (mvT hZ (wd hw 67 rfl)) (mvT hZ (wd hw 68 rfl)) (mvT hZ (own_selfsel (wd hw 70 rfl) (wd hw 69 rfl) (wd hw 68 rfl) (by decide))) (Cond.privateMethod_at (mvP hZ (wd hw 69 rfl) (args := #[]))) (mvT hZ (wd hw 71 rfl)) (by decide) (backOf (W := 0) (rm_en_16 l Z a0 hw [] a1 d1 kd ([(.int 0), (.int 0), (.int 0), (.int 0), (.int 0), (.int 0), (.int 0), (.int 0), (.int 0), (.int 0), (.int 0), (.int 0), (.int 0), (.int 0), (.int 0), (.int 0)]) (2 : Int32) h0 n0 (by omega) Fbv Fbc Vb (by decide)) hZ (wd hw 71 rfl) (wd hw 36 rfl) (by decide) (by decide)) (g := (mkF m 21 (la12 a1 x1 (2 : Int32)) [(.int 2), (.ref a1)])) rfl (by rw [hml]; rfl) (Steps.refl _) (a := a1) (by rw [e376]; exact q377a) q377b (argsL := [(.int 2)]) (rest := []) (lenOf pd_5 rfl) rfl (wz rfl) (hb hby d8_21) (fun _ _ => ⟨rfl, e376, (by decide : 0 + 0 ≤ _), (by decide : 0 + 0 ≤ _)⟩)
 dsimp only [Pt.U, Pt.locs, Pt.cells, Pt.slots] at X377 l377 y377 z377 st377 hQ377
 subst l377 y377 z377
 obtain ⟨rfl, N377q, e377⟩ := hQ377
 have N377 := Fr.app N375 N377q
 obtain ⟨T378, X378, e378, st378⟩ := getF X377 hx hZ hown (host := "") (Or.inl (wd hw 65 rfl)) Via.refl e377 Fbn (g := (mkF m 26 (la12 a1 x1 (2 : Int32)) [(.ref a1), (.ref a1)])) rfl rfl (hb hby d8_26)
 -- pc 30: AbstractStringBuilder.putStringAt by rm_ps_2_0_16
 obtain ⟨cq379, q379a, q379b⟩ := Eb.cell
 obtain ⟨_, _, ⟨T379, L379, k379, n379⟩, -, X379, ⟨Lc379, hQ379, l379, y379, z379⟩, st379⟩ := X378.privateBack hx (y := (⟨kS0, "putStringAt", "(ILjava/lang/String;)V"⟩ : MethodName)) hown (mvT hZ (wd hw 72 rfl)) (mvT hZ (wd hw 73 rfl)) (mvT hZ (own_selfsel (wd hw 75 rfl) (wd hw 74 rfl) (wd hw 73 rfl) (by decide))) (Cond.privateMethod_at (mvP hZ (wd hw 74 rfl) (args := #[]))) (mvT hZ (wd hw 76 rfl)) (by decide) (backOf (W := 0) (rm_ps_2_0_16 l Z a0 hw [] x1 t1 k1 xs0 xs1 a1 d1 kd z0 h0 n0 (by omega) O0 Esx1 Fcx1 Fvx1 Vsx1 Eb Fbv Fbc Fbn Vb (by first | assumption | decide | omega) (by first | assumption | decide | omega) (by first | assumption | decide | omega) ned) hZ (wd hw 76 rfl) (wd hw 36 rfl) (by decide) (by decide)) (g := (mkF m 30 (la12 a1 x1 (2 : Int32)) [(.ref x1), (.int 0), (.ref a1)])) rfl (by rw [hml]; rfl) (Steps.refl _) (a := a1) (by rw [e378]; exact q379a) q379b (argsL := [(.int 0), (.ref x1)]) (rest := []) (lenOf pd_9 rfl) rfl (wz rfl) (hb hby d8_30) (fun _ _ => ⟨rfl, e378, (by decide : 0 + 0 ≤ _), (by decide : 0 + 0 ≤ _)⟩)
 dsimp only [Pt.U, Pt.locs, Pt.cells, Pt.slots] at X379 l379 y379 z379 st379 hQ379
 subst l379 y379 z379
 obtain ⟨h379, e379⟩ : ∃ z, T379.heap = z := ⟨_, rfl⟩
 rw [e379] at hQ379
 obtain ⟨rfl, N379q, K379, p379_0⟩ := hQ379
 have N379 := Fr.app N377 N379q
 have ne380 : d1 ≠ x1 := Ne.symm (Exa.neArv Esx1 Vb (wd hw 2 rfl))
 have ne381 : d1 ≠ a1 := Ne.symm (Exa.neArv Eb Vb (wd hw 27 rfl))
 have sz379 : h0.size ≤ h379.size := K379.1
 have lt379_0 := ltA p379_0.lt
 have f382 : Fld Z h379 a1 kS0 "count" "I" (.int 0) := (Fbn.keep K379 (ninS (Ne.symm ne381) nin0))
 obtain ⟨T383, X383, e383, st383⟩ := getF X379 hx hZ hown (host := "") (Or.inl (wd hw 65 rfl)) Via.refl e379 f382 (g := (mkF m 35 (la12 a1 x1 (2 : Int32)) [(.ref a1), (.ref a1)])) rfl rfl (hb hby d8_35)
 have f384 : Exa Z h379 a1 kS2 := (Eb.keep K379)
 obtain ⟨T385, h385, X385, e385, W385, st385⟩ := putF X383 hx hZ hown (host := "") (Or.inl (wd hw 65 rfl)) Via.refl e383 f382 f384 (Or.inl (wd hw 66 rfl)) (wd hw 27 rfl) (ty := .int) (by decide) rfl rfl (g := (mkF m 40 (la12 a1 x1 (2 : Int32)) [(.int 2), (.ref a1)])) rfl rfl (hb hby d8_40)
 have N385 := Fr.snoc X385 N379 (by omega : n0 ≤ a1)
 have f386 : Exa Z h379 x1 kS1 := (Esx1.keep K379)
 have ne387 : a1 ≠ x1 := ne_exa f384 f386 (by decide)
 have f388 : Arv Z h379 t1 k1 .byte (2 : Int32) [(.int xs0), (.int xs1)] (.int 0) := (Vsx1.keep K379 (ninS ned nin0))
 have ne389 : a1 ≠ t1 := Exa.neArv f384 f388 (wd hw 27 rfl)
 have sz385 : h379.size ≤ h385.size := Nat.le_of_eq W385.size.symm
 have f385 : Fld Z h385 a1 kS0 "count" "I" (.int 2) := f382.same W385
 have f390 : Exa Z h385 a1 kS2 := (f384.wr W385)
 have f391 : Fld Z h385 a1 kS0 "value" "[B" (.ref d1) := ((Fbv.keep K379 (ninS (Ne.symm ne381) nin0)).other W385 (Or.inr (slot_ne (Or.inl (wd hw 41 rfl)) (Or.inl (wd hw 66 rfl)) (by decide) (t := (.array .byte)) (t' := .int) (by decide) (by decide))))
 have f392 : Fld Z h385 a1 kS0 "coder" "B" (.int 0) := ((Fbc.keep K379 (ninS (Ne.symm ne381) nin0)).other W385 (Or.inr (slot_ne (Or.inl (wd hw 43 rfl)) (Or.inl (wd hw 66 rfl)) (by decide) (t := .byte) (t' := .int) (by decide) (by decide))))
 have f393 : Arv Z h385 d1 kd .byte (16 : Int32) [(.int xs0), (.int xs1), (.int 0), (.int 0), (.int 0), (.int 0), (.int 0), (.int 0), (.int 0), (.int 0), (.int 0), (.int 0), (.int 0), (.int 0), (.int 0), (.int 0)] (.int 0) := (p379_0.other W385 ne381)
 obtain ⟨fs, hr, hrun, hended, hW, hsame⟩ := X385.leave (v := some (.ref a1)) (fun h => by rw [Bd.returns] at h; cases h)
 refine ⟨_, _, pre0 _ ?_, hrun, hended, _, _, rfl, ?_, ⟨_, rfl⟩, hW, hsame.mono (by decide) (by decide)⟩
 ·show GO p e below s₁ (mkF m 0 (la11 a1 x1) []) _
  refine XS.aloadN X0.here hx rfl (hb hby d8_0) rfl rfl ?_
  show GO p e below s₁ (mkF m 1 (la11 a1 x1) [(.ref x1)]) _
  refine XS.ifnonnullYes X0.here hx rfl (pc0 := 1) (pc' := 9) rfl (hb hby d8_1) rfl (by decide) (by decide) ?_
  show GO p e below s₁ (mkF m 9 (la11 a1 x1) []) _
  refine XS.aloadN X0.here hx rfl (hb hby d8_9) rfl rfl ?_
  show GO p e below s₁ (mkF m 10 (la11 a1 x1) [(.ref x1)]) _
  refine st375.trans ?_
  show GO p e below T375 (mkF m 13 (la11 a1 x1) [(.int 2)]) _
  refine XS.istoreN X375.here hx rfl (hb hby d8_13) rfl (l' := (la12 a1 x1 (2 : Int32))) rfl ?_
  show GO p e below T375 (mkF m 14 (la12 a1 x1 (2 : Int32)) []) _
  refine XS.aloadN X375.here hx rfl (hb hby d8_14) rfl rfl ?_
  show GO p e below T375 (mkF m 15 (la12 a1 x1 (2 : Int32)) [(.ref a1)]) _
  refine XS.aloadN X375.here hx rfl (hb hby d8_15) rfl rfl ?_
  show GO p e below T375 (mkF m 16 (la12 a1 x1 (2 : Int32)) [(.ref a1), (.ref a1)]) _
  refine st376 _ ?_
  show GO p e below T376 (mkF m 19 (la12 a1 x1 (2 : Int32)) [(.int 0), (.ref a1)]) _
  refine XS.iloadN X376.here hx rfl (hb hby d8_19) rfl ?_
  show GO p e below T376 (mkF m 20 (la12 a1 x1 (2 : Int32)) [(.int 2), (.int 0), (.ref a1)]) _
  refine XS.iadd X376.here hx rfl (hb hby d8_20) rfl ?_
  rw [show ((0 : Int32) + (2 : Int32)) = (2 : Int32) from by decide]
  show GO p e below T376 (mkF m 21 (la12 a1 x1 (2 : Int32)) [(.int 2), (.ref a1)]) _
  refine st377.trans ?_
  show GO p e below T377 (mkF m 24 (la12 a1 x1 (2 : Int32)) []) _
  refine XS.aloadN X377.here hx rfl (hb hby d8_24) rfl rfl ?_
  show GO p e below T377 (mkF m 25 (la12 a1 x1 (2 : Int32)) [(.ref a1)]) _
  refine XS.aloadN X377.here hx rfl (hb hby d8_25) rfl rfl ?_
  show GO p e below T377 (mkF m 26 (la12 a1 x1 (2 : Int32)) [(.ref a1), (.ref a1)]) _
  refine st378 _ ?_
  show GO p e below T378 (mkF m 29 (la12 a1 x1 (2 : Int32)) [(.int 0), (.ref a1)]) _
  refine XS.aloadN X378.here hx rfl (hb hby d8_29) rfl rfl ?_
  show GO p e below T378 (mkF m 30 (la12 a1 x1 (2 : Int32)) [(.ref x1), (.int 0), (.ref a1)]) _
  refine st379.trans ?_
  show GO p e below T379 (mkF m 33 (la12 a1 x1 (2 : Int32)) []) _
  refine XS.aloadN X379.here hx rfl (hb hby d8_33) rfl rfl ?_
  show GO p e below T379 (mkF m 34 (la12 a1 x1 (2 : Int32)) [(.ref a1)]) _
  refine XS.dup X379.here hx rfl (hb hby d8_34) rfl rfl ?_
  show GO p e below T379 (mkF m 35 (la12 a1 x1 (2 : Int32)) [(.ref a1), (.ref a1)]) _
  refine st383 _ ?_
  show GO p e below T383 (mkF m 38 (la12 a1 x1 (2 : Int32)) [(.int 0), (.ref a1)]) _
  refine XS.iloadN X383.here hx rfl (hb hby d8_38) rfl ?_
  show GO p e below T383 (mkF m 39 (la12 a1 x1 (2 : Int32)) [(.int 2), (.int 0), (.ref a1)]) _
  refine XS.iadd X383.here hx rfl (hb hby d8_39) rfl ?_
  rw [show ((0 : Int32) + (2 : Int32)) = (2 : Int32) from by decide]
  show GO p e below T383 (mkF m 40 (la12 a1 x1 (2 : Int32)) [(.int 2), (.ref a1)]) _
  refine st385 _ ?_
  show GO p e below T385 (mkF m 43 (la12 a1 x1 (2 : Int32)) []) _
  refine XS.aloadN X385.here hx rfl (hb hby d8_43) rfl rfl ?_
  show GO p e below T385 (mkF m 44 (la12 a1 x1 (2 : Int32)) [(.ref a1)]) _
  exact retOut X385 hx Bd.returns rfl (Or.inr (Or.inr (Or.inr (Or.inr ⟨rfl, rfl, rfl⟩)))) (hb hby d8_44) hr
 ·show Qrm_aa_2_0_16 Z x1 t1 k1 xs0 xs1 a1 d1 kd z0 h0 n0 _ T385.heap _
  rw [e385]
  exact ⟨rfl, N385, (((Keep.refl h0 [a1, d1]).trans K379 (allS (P := fun x => x ∈ _ ∨ _) (Or.inl (List.mem_of_getElem? (i := 1) rfl)) all0)).wr W385 (Or.inl (List.mem_of_getElem? (i := 0) rfl))), f390, f391, f392, f385, f393⟩
def Qrm_sa_2_0_16 (Z : State) (x1 : Addr) (t1 : Addr) (k1 : ClassId) (xs0 : Int32) (xs1 : Int32) (a1 : Addr) (d1 : Addr) (kd : ClassId) (z0 : Int32) (h0 : Heap) (n0 : Nat) (v : Option Value) (h : Heap) (L : List Loc) : Prop := v = some (.ref a1) ∧ Fr n0 L ∧ Keep h0 h [a1, d1] ∧ Exa Z h a1 kS2 ∧ Fld Z h a1 kS0 "value" "[B" (.ref d1) ∧ Fld Z h a1 kS0 "coder" "B" (.int 0) ∧ Fld Z h a1 kS0 "count" "I" (.int 2) ∧ Arv Z h d1 kd .byte (16 : Int32) [(.int xs0), (.int xs1), (.int 0), (.int 0), (.int 0), (.int 0), (.int 0), (.int 0), (.int 0), (.int 0), (.int 0), (.int 0), (.int 0), (.int 0), (.int 0), (.int 0)] (.int 0)
theorem ef_rm_sa_2_0_16 (m : MethodId) (x0 : Addr) (x1 : Addr) : entryFrame m #[(.ref x0), (.ref x1)] 2 = mkF m 0 #[.val (.ref x0), .val (.ref x1)] [] := by first | rfl | (simp [entryFrame, mkF, argsToLocals, Value.category]; done)
theorem rm_sa_2_0_16 (l : Launch) (Z : State) (a0 : Array Value) (hw : HW Z a0) (ws : List Jvm.Cond) (x1 : Addr) (t1 : Addr) (k1 : ClassId) (xs0 : Int32) (xs1 : Int32) (a1 : Addr) (d1 : Addr) (kd : ClassId) (z0 : Int32) (h0 : Heap) (n0 : Nat) (Z0 : n0 ≤ h0.size) (O0 : Old Z n0 h0) (Esx1 : Exa Z h0 x1 kS1) (Fcx1 : Fld Z h0 x1 kS1 "coder" "B" (.int 0)) (Fvx1 : Fld Z h0 x1 kS1 "value" "[B" (.ref t1)) (Vsx1 : Arv Z h0 t1 k1 .byte (2 : Int32) [(.int xs0), (.int xs1)] (.int 0)) (Eb : Exa Z h0 a1 kS2) (Fbv : Fld Z h0 a1 kS0 "value" "[B" (.ref d1)) (Fbc : Fld Z h0 a1 kS0 "coder" "B" (.int 0)) (Fbn : Fld Z h0 a1 kS0 "count" "I" (.int 0)) (Vb : Arv Z h0 d1 kd .byte (16 : Int32) [(.int 0), (.int 0), (.int 0), (.int 0), (.int 0), (.int 0), (.int 0), (.int 0), (.int 0), (.int 0), (.int 0), (.int 0), (.int 0), (.int 0), (.int 0), (.int 0)] (.int 0)) (SZc : Sta Z Z.heap kS1 "COMPACT_STRINGS" "Z" (.int z0)) (hz0 : ¬ z0 = 0) (ga : n0 ≤ a1) (gd : n0 ≤ d1) (ned : t1 ≠ d1) :
  OwnM l Z h0 (⟨kS2, "append", "(Ljava/lang/String;)Ljava/lang/StringBuilder;"⟩ : MethodName) (Jvm.Cond.code (⟨kS2, "append", "(Ljava/lang/String;)Ljava/lang/StringBuilder;"⟩ : MethodName) jdk_67_method_7_code 2 (some (.object kS2)) :: ws) (RM 4 0 0 61) #[(.ref a1), (.ref x1)] (Qrm_sa_2_0_16 Z x1 t1 k1 xs0 xs1 a1 d1 kd z0 h0 n0) := by
 refine MetFree.of_bodySF (plainFor_of_name pn_3) hisR ?_
 intro p e s m args below meth c s₁ Bd hml0 hP hK
 obtain ⟨rfl, hZ, hh⟩ := hP
 have hx := Bd.exec
 have hby := Bd.bytes
 have hml : c.maxLocals = 2 := hml0
 have hown : s.vm.findClass kS2 = some m.cls := findClass_of_methodNamed Bd.named
 have hnm := (name_of_methodNamed Bd.named Bd.method).1
 have X0 : Stand p l e (RM 4 0 0 61) s m #[(.ref a1), (.ref x1)] below meth c s₁ [] 0 0 := Stand.of_body Bd
 have e0 : s₁.heap = h0 := by rw [← hh, Bd.state]; rfl
 have N0 := Fr.nil n0
 have pre0 : ∀ t, GO p e below s₁ (mkF m 0 #[.val (.ref a1), .val (.ref x1)] []) t → GO p e below s₁ (entryFrame m #[(.ref a1), (.ref x1)] 2) t := fun t k => castTop (ef_rm_sa_2_0_16 m a1 x1) k
 have lt_Esx1 := ltA Esx1.lt
 have lt_Fcx1 := ltA Fcx1.lt
 have lt_Fvx1 := ltA Fvx1.lt
 have lt_Vsx1 := ltA Vsx1.lt
 have lt_Eb := ltA Eb.lt
 have lt_Fbv := ltA Fbv.lt
 have lt_Fbc := ltA Fbc.lt
 have lt_Fbn := ltA Fbn.lt
 have lt_Vb := ltA Vb.lt
 -- pc 2: AbstractStringBuilder.append by rm_aa_2_0_16
 obtain ⟨_, _, ⟨T394, L394, k394, n394⟩, -, X394, ⟨Lc394, hQ394, l394, y394, z394⟩, st394⟩ := superBack X0 hx hZ (y := (⟨kS0, "append", kS3⟩ : MethodName)) hown (wd hw 49 rfl) (own_sameM (y := (⟨kS0, "append", kS3⟩ : MethodName)) (wd hw 50 rfl) (wd hw 70 rfl) rfl (by decide)) (wd hw 50 rfl) (wd hw 51 rfl) (by decide) (backOf (W := 0) (rm_aa_2_0_16 l Z a0 hw [] x1 t1 k1 xs0 xs1 a1 d1 kd z0 h0 n0 (by omega) O0 Esx1 Fcx1 Fvx1 Vsx1 Eb Fbv Fbc Fbn Vb (by first | assumption | decide | omega) (by first | assumption | decide | omega) (by first | assumption | decide | omega) (by first | assumption | decide | omega) ned) hZ (wd hw 53 rfl) (wd hw 36 rfl) (by decide) (by decide)) e0 (Ins.self Eb) (g := (mkF m 2 #[.val (.ref a1), .val (.ref x1)] [(.ref x1), (.ref a1)])) rfl (by rw [hml]; rfl) (wd hw 53 rfl) (argsL := [(.ref x1)]) (rest := []) (lenOf pd_10 rfl) rfl (wz rfl) (hb hby d7_2) (fun _ _ => ⟨rfl, e0, (by decide : 0 + 0 ≤ _), (by decide : 0 + 0 ≤ _)⟩)
 dsimp only [Pt.U, Pt.locs, Pt.cells, Pt.slots] at X394 l394 y394 z394 st394 hQ394
 subst l394 y394 z394
 obtain ⟨h394, e394⟩ : ∃ z, T394.heap = z := ⟨_, rfl⟩
 rw [e394] at hQ394
 obtain ⟨rfl, N394q, K394, p394_0, p394_1, p394_2, p394_3, p394_4⟩ := hQ394
 have N394 := Fr.app N0 N394q
 have ne395 : a1 ≠ x1 := ne_exa Eb Esx1 (by decide)
 have ne396 : a1 ≠ t1 := Exa.neArv Eb Vsx1 (wd hw 27 rfl)
 have ne397 : a1 ≠ d1 := Exa.neArv Eb Vb (wd hw 27 rfl)
 have ne398 : d1 ≠ x1 := Ne.symm (Exa.neArv Esx1 Vb (wd hw 2 rfl))
 have sz394 : h0.size ≤ h394.size := K394.1
 have lt394_0 := ltA p394_0.lt
 have lt394_4 := ltA p394_4.lt
 obtain ⟨fs, hr, hrun, hended, hW, hsame⟩ := X394.leave (v := some (.ref a1)) (fun h => by rw [Bd.returns] at h; cases h)
 refine ⟨_, _, pre0 _ ?_, hrun, hended, _, _, rfl, ?_, ⟨_, rfl⟩, hW, hsame.mono (by decide) (by decide)⟩
 ·show GO p e below s₁ (mkF m 0 #[.val (.ref a1), .val (.ref x1)] []) _
  refine XS.aloadN X0.here hx rfl (hb hby d7_0) rfl rfl ?_
  show GO p e below s₁ (mkF m 1 #[.val (.ref a1), .val (.ref x1)] [(.ref a1)]) _
  refine XS.aloadN X0.here hx rfl (hb hby d7_1) rfl rfl ?_
  show GO p e below s₁ (mkF m 2 #[.val (.ref a1), .val (.ref x1)] [(.ref x1), (.ref a1)]) _
  refine st394.trans ?_
  show GO p e below T394 (mkF m 5 #[.val (.ref a1), .val (.ref x1)] [(.ref a1)]) _
  refine XS.pop X394.here hx rfl (hb hby d7_5) rfl rfl ?_
  show GO p e below T394 (mkF m 6 #[.val (.ref a1), .val (.ref x1)] []) _
  refine XS.aloadN X394.here hx rfl (hb hby d7_6) rfl rfl ?_
  show GO p e below T394 (mkF m 7 #[.val (.ref a1), .val (.ref x1)] [(.ref a1)]) _
  exact retOut X394 hx Bd.returns rfl (Or.inr (Or.inr (Or.inr (Or.inr ⟨rfl, rfl, rfl⟩)))) (hb hby d7_7) hr
 ·show Qrm_sa_2_0_16 Z x1 t1 k1 xs0 xs1 a1 d1 kd z0 h0 n0 _ T394.heap _
  rw [e394]
  exact ⟨rfl, N394, ((Keep.refl h0 [a1, d1]).trans K394 (allS (P := fun x => x ∈ _ ∨ _) (Or.inl (List.mem_of_getElem? (i := 0) rfl)) (allS (P := fun x => x ∈ _ ∨ _) (Or.inl (List.mem_of_getElem? (i := 1) rfl)) all0))), p394_0, p394_1, p394_2, p394_3, p394_4⟩
def Qrm_gb_1_2_16 (Z : State) (x1 : Addr) (t1 : Addr) (k1 : ClassId) (xs0 : Int32) (d1 : Addr) (kd : ClassId) (xe0 : Int32) (xe1 : Int32) (z0 : Int32) (h0 : Heap) (n0 : Nat) (v : Option Value) (h : Heap) (L : List Loc) : Prop := v = none ∧ Fr n0 L ∧ Keep h0 h [d1] ∧ Arv Z h d1 kd .byte (16 : Int32) [(.int xe0), (.int xe1), (.int xs0), (.int 0), (.int 0), (.int 0), (.int 0), (.int 0), (.int 0), (.int 0), (.int 0), (.int 0), (.int 0), (.int 0), (.int 0), (.int 0)] (.int 0)
theorem ef_rm_gb_1_2_16 (m : MethodId) (x0 : Addr) (x1 : Addr) (x2 : Int32) (x3 : Int32) : entryFrame m #[(.ref x0), (.ref x1), (.int x2), (.int x3)] 4 = mkF m 0 (la10 x0 x1 x2 x3) [] := by first | rfl | (simp [entryFrame, mkF, argsToLocals, Value.category]; done)
theorem rm_gb_1_2_16 (l : Launch) (Z : State) (a0 : Array Value) (hw : HW Z a0) (ws : List Jvm.Cond) (x1 : Addr) (t1 : Addr) (k1 : ClassId) (xs0 : Int32) (d1 : Addr) (kd : ClassId) (xe0 : Int32) (xe1 : Int32) (z0 : Int32) (h0 : Heap) (n0 : Nat) (Z0 : n0 ≤ h0.size) (O0 : Old Z n0 h0) (Esx1 : Exa Z h0 x1 kS1) (Fcx1 : Fld Z h0 x1 kS1 "coder" "B" (.int 0)) (Fvx1 : Fld Z h0 x1 kS1 "value" "[B" (.ref t1)) (Vsx1 : Arv Z h0 t1 k1 .byte (1 : Int32) [(.int xs0)] (.int 0)) (Vd : Arv Z h0 d1 kd .byte (16 : Int32) [(.int xe0), (.int xe1), (.int 0), (.int 0), (.int 0), (.int 0), (.int 0), (.int 0), (.int 0), (.int 0), (.int 0), (.int 0), (.int 0), (.int 0), (.int 0), (.int 0)] (.int 0)) (SZc : Sta Z Z.heap kS1 "COMPACT_STRINGS" "Z" (.int z0)) (hz0 : ¬ z0 = 0) (gd : n0 ≤ d1) (ned : t1 ≠ d1) :
  OwnM l Z h0 (⟨kS1, "getBytes", "([BIB)V"⟩ : MethodName) (Jvm.Cond.code (⟨kS1, "getBytes", "([BIB)V"⟩ : MethodName) jdk_42_method_147_code 4 none :: ws) (RM 1 0 0 18) #[(.ref x1), (.ref d1), (.int 2), (.int 0)] (Qrm_gb_1_2_16 Z x1 t1 k1 xs0 d1 kd xe0 xe1 z0 h0 n0) := by
 refine MetFree.of_bodySF (plainFor_of_name pn_0) hisR ?_
 intro p e s m args below meth c s₁ Bd hml0 hP hK
 obtain ⟨rfl, hZ, hh⟩ := hP
 have hx := Bd.exec
 have hby := Bd.bytes
 have hml : c.maxLocals = 4 := hml0
 have hown : s.vm.findClass kS1 = some m.cls := findClass_of_methodNamed Bd.named
 have hnm := (name_of_methodNamed Bd.named Bd.method).1
 have X0 : Stand p l e (RM 1 0 0 18) s m #[(.ref x1), (.ref d1), (.int 2), (.int 0)] below meth c s₁ [] 0 0 := Stand.of_body Bd
 have e0 : s₁.heap = h0 := by rw [← hh, Bd.state]; rfl
 have N0 := Fr.nil n0
 have pre0 : ∀ t, GO p e below s₁ (mkF m 0 (la10 x1 d1 (2 : Int32) (0 : Int32)) []) t → GO p e below s₁ (entryFrame m #[(.ref x1), (.ref d1), (.int 2), (.int 0)] 4) t := fun t k => castTop (ef_rm_gb_1_2_16 m x1 d1 ((2 : Int32)) ((0 : Int32))) k
 have lt_Esx1 := ltA Esx1.lt
 have lt_Fcx1 := ltA Fcx1.lt
 have lt_Fvx1 := ltA Fvx1.lt
 have lt_Vsx1 := ltA Vsx1.lt
 have lt_Vd := ltA Vd.lt
 -- pc 1: String.coder by rm_sc
 obtain ⟨cq399, kq399, q399a, q399b, q399c⟩ := isOf hZ e0 Esx1
 obtain ⟨_, _, ⟨T399, L399, k399, n399⟩, -, X399, ⟨Lc399, hQ399, l399, y399, z399⟩, st399⟩ := X0.virtualBack hx (y := (⟨kS1, "coder", "()B"⟩ : MethodName)) (z := (⟨kS1, "coder", "()B"⟩ : MethodName)) hown (mvT hZ (wd hw 59 rfl)) (mvT hZ (wd hw 60 rfl)) (notFace_of_selects (args := #[]) (mvT hZ (wd hw 62 rfl))) (mvT hZ (wd hw 62 rfl)) (mvT hZ (wd hw 61 rfl)) (by decide) (backOf (W := 0) (rm_sc l Z a0 hw [] x1 z0 h0 n0 (by omega) O0 Fcx1 (by first | assumption | decide | omega) (by first | assumption | decide | omega)) hZ (wd hw 63 rfl) (wd hw 3 rfl) (by decide) (by decide)) q399a q399c (g := (mkF m 1 (la10 x1 d1 (2 : Int32) (0 : Int32)) [(.ref x1)])) rfl (by rw [hml]; rfl) (Steps.refl _) (argsL := []) (rest := []) (lenOf pd_3 rfl) rfl (wz rfl) (hb hby d14_1) (fun _ _ => ⟨rfl, e0, (by decide : 0 + 0 ≤ _), (by decide : 0 + 0 ≤ _)⟩)
 dsimp only [Pt.U, Pt.locs, Pt.cells, Pt.slots] at X399 l399 y399 z399 st399 hQ399
 subst l399 y399 z399
 obtain ⟨rfl, N399q, e399⟩ := hQ399
 have N399 := Fr.app N0 N399q
 obtain ⟨T400, X400, e400, st400⟩ := getF X399 hx hZ hown (host := "") (Or.inl (wd hw 20 rfl)) Via.refl e399 Fvx1 (g := (mkF m 9 (la10 x1 d1 (2 : Int32) (0 : Int32)) [(.ref x1)])) rfl rfl (hb hby d14_9)
 obtain ⟨T401, X401, e401, st401⟩ := getF X400 hx hZ hown (host := "") (Or.inl (wd hw 20 rfl)) Via.refl e400 Fvx1 (g := (mkF m 18 (la10 x1 d1 (2 : Int32) (0 : Int32)) [(.ref x1), (.int 2), (.ref d1), (.int 0), (.ref t1)])) rfl rfl (hb hby d14_18)
 obtain ⟨cl402, Ar402, -, S402, M402, -, -⟩ := id Vsx1
 obtain ⟨T403, h403, L403, X403, e403, N403, K403, A403, st403⟩ := cpA X401 hx hZ hown (wd hw 88 rfl) (wd hw 91 rfl) (wd hw 89 rfl) (wd hw 90 rfl) e401 Vsx1 Vd (us := [(.int xs0)]) (Or.inl ⟨rfl, rfl⟩) (by decide) (by decide) (by decide) (by decide) (by decide) rfl (Nat.le_of_ble_eq_true rfl) N399 (by omega) (g := (mkF m 22 (la10 x1 d1 (2 : Int32) (0 : Int32)) [(.int 1), (.int 2), (.ref d1), (.int 0), (.ref t1)])) rfl (by rw [hml]; rfl) rfl (hb hby d14_22) (by decide) (W := 0) (wz rfl) (by decide)
 have sz403 : h0.size ≤ h403.size := K403.1
 have V403 : Arv Z h403 d1 kd .byte (16 : Int32) [(.int xe0), (.int xe1), (.int xs0), (.int 0), (.int 0), (.int 0), (.int 0), (.int 0), (.int 0), (.int 0), (.int 0), (.int 0), (.int 0), (.int 0), (.int 0), (.int 0)] (.int 0) := A403
 obtain ⟨fs, hr, hrun, hended, hW, hsame⟩ := X403.leave (v := none) (fun _ => rfl)
 refine ⟨_, _, pre0 _ ?_, hrun, hended, _, _, rfl, ?_, ⟨_, rfl⟩, hW, hsame.mono (by decide) (by decide)⟩
 ·show GO p e below s₁ (mkF m 0 (la10 x1 d1 (2 : Int32) (0 : Int32)) []) _
  refine XS.aloadN X0.here hx rfl (hb hby d14_0) rfl rfl ?_
  show GO p e below s₁ (mkF m 1 (la10 x1 d1 (2 : Int32) (0 : Int32)) [(.ref x1)]) _
  refine st399.trans ?_
  show GO p e below T399 (mkF m 4 (la10 x1 d1 (2 : Int32) (0 : Int32)) [(.int 0)]) _
  refine XS.iloadN X399.here hx rfl (hb hby d14_4) rfl ?_
  show GO p e below T399 (mkF m 5 (la10 x1 d1 (2 : Int32) (0 : Int32)) [(.int 0), (.int 0)]) _
  refine XS.icmpNo X399.here hx rfl (hb hby d14_5) rfl (teq (rfl : (0 : Int32) = (0 : Int32))).2 ?_
  show GO p e below T399 (mkF m 8 (la10 x1 d1 (2 : Int32) (0 : Int32)) []) _
  refine XS.aloadN X399.here hx rfl (hb hby d14_8) rfl rfl ?_
  show GO p e below T399 (mkF m 9 (la10 x1 d1 (2 : Int32) (0 : Int32)) [(.ref x1)]) _
  refine st400 _ ?_
  show GO p e below T400 (mkF m 12 (la10 x1 d1 (2 : Int32) (0 : Int32)) [(.ref t1)]) _
  refine XS.iconst X400.here hx rfl (hb hby d14_12) ?_
  show GO p e below T400 (mkF m 13 (la10 x1 d1 (2 : Int32) (0 : Int32)) [(.int 0), (.ref t1)]) _
  refine XS.aloadN X400.here hx rfl (hb hby d14_13) rfl rfl ?_
  show GO p e below T400 (mkF m 14 (la10 x1 d1 (2 : Int32) (0 : Int32)) [(.ref d1), (.int 0), (.ref t1)]) _
  refine XS.iloadN X400.here hx rfl (hb hby d14_14) rfl ?_
  show GO p e below T400 (mkF m 15 (la10 x1 d1 (2 : Int32) (0 : Int32)) [(.int 2), (.ref d1), (.int 0), (.ref t1)]) _
  refine XS.iloadN X400.here hx rfl (hb hby d14_15) rfl ?_
  show GO p e below T400 (mkF m 16 (la10 x1 d1 (2 : Int32) (0 : Int32)) [(.int 0), (.int 2), (.ref d1), (.int 0), (.ref t1)]) _
  refine XS.ishl X400.here hx rfl (hb hby d14_16) rfl ?_
  rw [show ((2 : Int32) <<< ((0 : Int32) &&& 31)) = (2 : Int32) from by decide]
  show GO p e below T400 (mkF m 17 (la10 x1 d1 (2 : Int32) (0 : Int32)) [(.int 2), (.ref d1), (.int 0), (.ref t1)]) _
  refine XS.aloadN X400.here hx rfl (hb hby d14_17) rfl rfl ?_
  show GO p e below T400 (mkF m 18 (la10 x1 d1 (2 : Int32) (0 : Int32)) [(.ref x1), (.int 2), (.ref d1), (.int 0), (.ref t1)]) _
  refine st401 _ ?_
  show GO p e below T401 (mkF m 21 (la10 x1 d1 (2 : Int32) (0 : Int32)) [(.ref t1), (.int 2), (.ref d1), (.int 0), (.ref t1)]) _
  refine X401.arraylength hx (by rw [e401]; exact Ar402.1) (State.isArrayOf_alike hZ.alike Ar402.2.1) (g := (mkF m 21 (la10 x1 d1 (2 : Int32) (0 : Int32)) [(.ref t1), (.int 2), (.ref d1), (.int 0), (.ref t1)])) rfl rfl (hb hby d14_21) _ ?_
  rw [len_of S402 M402]
  show GO p e below T401 (mkF m 22 (la10 x1 d1 (2 : Int32) (0 : Int32)) [(.int 1), (.int 2), (.ref d1), (.int 0), (.ref t1)]) _
  refine st403 _ ?_
  show GO p e below T403 (mkF m 25 (la10 x1 d1 (2 : Int32) (0 : Int32)) []) _
  refine XS.goto X403.here hx rfl (pc0 := 25) (pc' := 43) rfl (hb hby d14_25) (by decide) (by decide) ?_
  show GO p e below T403 (mkF m 43 (la10 x1 d1 (2 : Int32) (0 : Int32)) []) _
  exact X403.returnOut hx Bd.returns (hb hby d14_43) hr
 ·show Qrm_gb_1_2_16 Z x1 t1 k1 xs0 d1 kd xe0 xe1 z0 h0 n0 _ T403.heap _
  rw [e403]
  exact ⟨rfl, N403, ((Keep.refl h0 [d1]).trans K403 (allS (P := fun x => x ∈ _ ∨ _) (Or.inl (List.mem_of_getElem? (i := 0) rfl)) all0)), V403⟩
def Qrm_ps_1_2_16 (Z : State) (x1 : Addr) (t1 : Addr) (k1 : ClassId) (xs0 : Int32) (a1 : Addr) (d1 : Addr) (kd : ClassId) (xe0 : Int32) (xe1 : Int32) (z0 : Int32) (h0 : Heap) (n0 : Nat) (v : Option Value) (h : Heap) (L : List Loc) : Prop := v = none ∧ Fr n0 L ∧ Keep h0 h [d1] ∧ Arv Z h d1 kd .byte (16 : Int32) [(.int xe0), (.int xe1), (.int xs0), (.int 0), (.int 0), (.int 0), (.int 0), (.int 0), (.int 0), (.int 0), (.int 0), (.int 0), (.int 0), (.int 0), (.int 0), (.int 0)] (.int 0)
theorem ef_rm_ps_1_2_16 (m : MethodId) (x0 : Addr) (x1 : Int32) (x2 : Addr) : entryFrame m #[(.ref x0), (.int x1), (.ref x2)] 3 = mkF m 0 (la7 x0 x1 x2) [] := by first | rfl | (simp [entryFrame, mkF, argsToLocals, Value.category]; done)
theorem rm_ps_1_2_16 (l : Launch) (Z : State) (a0 : Array Value) (hw : HW Z a0) (ws : List Jvm.Cond) (x1 : Addr) (t1 : Addr) (k1 : ClassId) (xs0 : Int32) (a1 : Addr) (d1 : Addr) (kd : ClassId) (xe0 : Int32) (xe1 : Int32) (z0 : Int32) (h0 : Heap) (n0 : Nat) (Z0 : n0 ≤ h0.size) (O0 : Old Z n0 h0) (Esx1 : Exa Z h0 x1 kS1) (Fcx1 : Fld Z h0 x1 kS1 "coder" "B" (.int 0)) (Fvx1 : Fld Z h0 x1 kS1 "value" "[B" (.ref t1)) (Vsx1 : Arv Z h0 t1 k1 .byte (1 : Int32) [(.int xs0)] (.int 0)) (Eb : Exa Z h0 a1 kS2) (Fbv : Fld Z h0 a1 kS0 "value" "[B" (.ref d1)) (Fbc : Fld Z h0 a1 kS0 "coder" "B" (.int 0)) (Fbn : Fld Z h0 a1 kS0 "count" "I" (.int 2)) (Vb : Arv Z h0 d1 kd .byte (16 : Int32) [(.int xe0), (.int xe1), (.int 0), (.int 0), (.int 0), (.int 0), (.int 0), (.int 0), (.int 0), (.int 0), (.int 0), (.int 0), (.int 0), (.int 0), (.int 0), (.int 0)] (.int 0)) (SZc : Sta Z Z.heap kS1 "COMPACT_STRINGS" "Z" (.int z0)) (hz0 : ¬ z0 = 0) (gd : n0 ≤ d1) (ned : t1 ≠ d1) :
  OwnM l Z h0 (⟨kS0, "putStringAt", "(ILjava/lang/String;)V"⟩ : MethodName) (Jvm.Cond.code (⟨kS0, "putStringAt", "(ILjava/lang/String;)V"⟩ : MethodName) jdk_68_method_73_code 3 none :: ws) (RM 2 0 0 33) #[(.ref a1), (.int 2), (.ref x1)] (Qrm_ps_1_2_16 Z x1 t1 k1 xs0 a1 d1 kd xe0 xe1 z0 h0 n0) := by
 refine MetFree.of_bodySF (plainFor_of_name pn_2) hisR ?_
 intro p e s m args below meth c s₁ Bd hml0 hP hK
 obtain ⟨rfl, hZ, hh⟩ := hP
 have hx := Bd.exec
 have hby := Bd.bytes
 have hml : c.maxLocals = 3 := hml0
 have hown : s.vm.findClass kS0 = some m.cls := findClass_of_methodNamed Bd.named
 have hnm := (name_of_methodNamed Bd.named Bd.method).1
 have X0 : Stand p l e (RM 2 0 0 33) s m #[(.ref a1), (.int 2), (.ref x1)] below meth c s₁ [] 0 0 := Stand.of_body Bd
 have e0 : s₁.heap = h0 := by rw [← hh, Bd.state]; rfl
 have N0 := Fr.nil n0
 have pre0 : ∀ t, GO p e below s₁ (mkF m 0 (la7 a1 (2 : Int32) x1) []) t → GO p e below s₁ (entryFrame m #[(.ref a1), (.int 2), (.ref x1)] 3) t := fun t k => castTop (ef_rm_ps_1_2_16 m a1 ((2 : Int32)) x1) k
 have lt_Esx1 := ltA Esx1.lt
 have lt_Fcx1 := ltA Fcx1.lt
 have lt_Fvx1 := ltA Fvx1.lt
 have lt_Vsx1 := ltA Vsx1.lt
 have lt_Eb := ltA Eb.lt
 have lt_Fbv := ltA Fbv.lt
 have lt_Fbc := ltA Fbc.lt
 have lt_Fbn := ltA Fbn.lt
 have lt_Vb := ltA Vb.lt
 -- pc 2: AbstractStringBuilder.inflateIfNeededFor by rm_inf
 obtain ⟨cq404, q404a, q404b⟩ := Eb.cell
 obtain ⟨_, _, ⟨T404, L404, k404, n404⟩, -, X404, ⟨Lc404, hQ404, l404, y404, z404⟩, st404⟩ := X0.privateBack hx (y := (⟨kS0, "inflateIfNeededFor", "(Ljava/lang/String;)V"⟩ : MethodName)) hown (mvT hZ (wd hw 77 rfl)) (mvT hZ (wd hw 78 rfl)) (mvT hZ (own_selfsel (wd hw 80 rfl) (wd hw 79 rfl) (wd hw 78 rfl) (by decide))) (Cond.privateMethod_at (mvP hZ (wd hw 79 rfl) (args := #[]))) (mvT hZ (wd hw 81 rfl)) (by decide) (backOf (W := 0) (rm_inf l Z a0 hw [] a1 x1 z0 h0 n0 (by omega) O0 Fbc Esx1 Fcx1 (by first | assumption | decide | omega) (by first | assumption | decide | omega)) hZ (wd hw 81 rfl) (wd hw 36 rfl) (by decide) (by decide)) (g := (mkF m 2 (la7 a1 (2 : Int32) x1) [(.ref x1), (.ref a1)])) rfl (by rw [hml]; rfl) (Steps.refl _) (a := a1) (by rw [e0]; exact q404a) q404b (argsL := [(.ref x1)]) (rest := []) (lenOf pd_6 rfl) rfl (wz rfl) (hb hby d12_2) (fun _ _ => ⟨rfl, e0, (by decide : 0 + 0 ≤ _), (by decide : 0 + 0 ≤ _)⟩)
 dsimp only [Pt.U, Pt.locs, Pt.cells, Pt.slots] at X404 l404 y404 z404 st404 hQ404
 subst l404 y404 z404
 obtain ⟨rfl, N404q, e404⟩ := hQ404
 have N404 := Fr.app N0 N404q
 obtain ⟨T405, X405, e405, st405⟩ := getF X404 hx hZ hown (host := "") (Or.inl (wd hw 40 rfl)) Via.refl e404 Fbv (g := (mkF m 7 (la7 a1 (2 : Int32) x1) [(.ref a1), (.ref x1)])) rfl rfl (hb hby d12_7)
 obtain ⟨T406, X406, e406, st406⟩ := getF X405 hx hZ hown (host := "") (Or.inl (wd hw 42 rfl)) Via.refl e405 Fbc (g := (mkF m 12 (la7 a1 (2 : Int32) x1) [(.ref a1), (.int 2), (.ref d1), (.ref x1)])) rfl rfl (hb hby d12_12)
 -- pc 15: String.getBytes by rm_gb_1_2_16
 obtain ⟨cq407, kq407, q407a, q407b, q407c⟩ := isOf hZ e406 Esx1
 obtain ⟨_, _, ⟨T407, L407, k407, n407⟩, -, X407, ⟨Lc407, hQ407, l407, y407, z407⟩, st407⟩ := X406.virtualBack hx (y := (⟨kS1, "getBytes", "([BIB)V"⟩ : MethodName)) (z := (⟨kS1, "getBytes", "([BIB)V"⟩ : MethodName)) hown (mvT hZ (wd hw 83 rfl)) (mvT hZ (wd hw 84 rfl)) (notFace_of_selects (args := #[]) (mvT hZ (wd hw 86 rfl))) (mvT hZ (wd hw 86 rfl)) (mvT hZ (wd hw 85 rfl)) (by decide) (backOf (W := 0) (rm_gb_1_2_16 l Z a0 hw [] x1 t1 k1 xs0 d1 kd xe0 xe1 z0 h0 n0 (by omega) O0 Esx1 Fcx1 Fvx1 Vsx1 Vb (by first | assumption | decide | omega) (by first | assumption | decide | omega) (by first | assumption | decide | omega) ned) hZ (wd hw 87 rfl) (wd hw 3 rfl) (by decide) (by decide)) q407a q407c (g := (mkF m 15 (la7 a1 (2 : Int32) x1) [(.int 0), (.int 2), (.ref d1), (.ref x1)])) rfl (by rw [hml]; rfl) (Steps.refl _) (argsL := [(.ref d1), (.int 2), (.int 0)]) (rest := []) (lenOf pd_7 rfl) rfl (wz rfl) (hb hby d12_15) (fun _ _ => ⟨rfl, e406, (by decide : 0 + 0 ≤ _), (by decide : 0 + 0 ≤ _)⟩)
 dsimp only [Pt.U, Pt.locs, Pt.cells, Pt.slots] at X407 l407 y407 z407 st407 hQ407
 subst l407 y407 z407
 obtain ⟨h407, e407⟩ : ∃ z, T407.heap = z := ⟨_, rfl⟩
 rw [e407] at hQ407
 obtain ⟨rfl, N407q, K407, p407_0⟩ := hQ407
 have N407 := Fr.app N404 N407q
 have sz407 : h0.size ≤ h407.size := K407.1
 have lt407_0 := ltA p407_0.lt
 obtain ⟨fs, hr, hrun, hended, hW, hsame⟩ := X407.leave (v := none) (fun _ => rfl)
 refine ⟨_, _, pre0 _ ?_, hrun, hended, _, _, rfl, ?_, ⟨_, rfl⟩, hW, hsame.mono (by decide) (by decide)⟩
 ·show GO p e below s₁ (mkF m 0 (la7 a1 (2 : Int32) x1) []) _
  refine XS.aloadN X0.here hx rfl (hb hby d12_0) rfl rfl ?_
  show GO p e below s₁ (mkF m 1 (la7 a1 (2 : Int32) x1) [(.ref a1)]) _
  refine XS.aloadN X0.here hx rfl (hb hby d12_1) rfl rfl ?_
  show GO p e below s₁ (mkF m 2 (la7 a1 (2 : Int32) x1) [(.ref x1), (.ref a1)]) _
  refine st404.trans ?_
  show GO p e below T404 (mkF m 5 (la7 a1 (2 : Int32) x1) []) _
  refine XS.aloadN X404.here hx rfl (hb hby d12_5) rfl rfl ?_
  show GO p e below T404 (mkF m 6 (la7 a1 (2 : Int32) x1) [(.ref x1)]) _
  refine XS.aloadN X404.here hx rfl (hb hby d12_6) rfl rfl ?_
  show GO p e below T404 (mkF m 7 (la7 a1 (2 : Int32) x1) [(.ref a1), (.ref x1)]) _
  refine st405 _ ?_
  show GO p e below T405 (mkF m 10 (la7 a1 (2 : Int32) x1) [(.ref d1), (.ref x1)]) _
  refine XS.iloadN X405.here hx rfl (hb hby d12_10) rfl ?_
  show GO p e below T405 (mkF m 11 (la7 a1 (2 : Int32) x1) [(.int 2), (.ref d1), (.ref x1)]) _
  refine XS.aloadN X405.here hx rfl (hb hby d12_11) rfl rfl ?_
  show GO p e below T405 (mkF m 12 (la7 a1 (2 : Int32) x1) [(.ref a1), (.int 2), (.ref d1), (.ref x1)]) _
  refine st406 _ ?_
  show GO p e below T406 (mkF m 15 (la7 a1 (2 : Int32) x1) [(.int 0), (.int 2), (.ref d1), (.ref x1)]) _
  refine st407.trans ?_
  show GO p e below T407 (mkF m 18 (la7 a1 (2 : Int32) x1) []) _
  exact X407.returnOut hx Bd.returns (hb hby d12_18) hr
 ·show Qrm_ps_1_2_16 Z x1 t1 k1 xs0 a1 d1 kd xe0 xe1 z0 h0 n0 _ T407.heap _
  rw [e407]
  exact ⟨rfl, N407, ((Keep.refl h0 [d1]).trans K407 (allS (P := fun x => x ∈ _ ∨ _) (Or.inl (List.mem_of_getElem? (i := 0) rfl)) all0)), p407_0⟩
def Qrm_aa_1_2_16 (Z : State) (x1 : Addr) (t1 : Addr) (k1 : ClassId) (xs0 : Int32) (a1 : Addr) (d1 : Addr) (kd : ClassId) (xe0 : Int32) (xe1 : Int32) (z0 : Int32) (h0 : Heap) (n0 : Nat) (v : Option Value) (h : Heap) (L : List Loc) : Prop := v = some (.ref a1) ∧ Fr n0 L ∧ Keep h0 h [a1, d1] ∧ Exa Z h a1 kS2 ∧ Fld Z h a1 kS0 "value" "[B" (.ref d1) ∧ Fld Z h a1 kS0 "coder" "B" (.int 0) ∧ Fld Z h a1 kS0 "count" "I" (.int 3) ∧ Arv Z h d1 kd .byte (16 : Int32) [(.int xe0), (.int xe1), (.int xs0), (.int 0), (.int 0), (.int 0), (.int 0), (.int 0), (.int 0), (.int 0), (.int 0), (.int 0), (.int 0), (.int 0), (.int 0), (.int 0)] (.int 0)
theorem ef_rm_aa_1_2_16 (m : MethodId) (x0 : Addr) (x1 : Addr) : entryFrame m #[(.ref x0), (.ref x1)] 3 = mkF m 0 (la11 x0 x1) [] := by first | rfl | (simp [entryFrame, mkF, argsToLocals, Value.category]; done)
theorem rm_aa_1_2_16 (l : Launch) (Z : State) (a0 : Array Value) (hw : HW Z a0) (ws : List Jvm.Cond) (x1 : Addr) (t1 : Addr) (k1 : ClassId) (xs0 : Int32) (a1 : Addr) (d1 : Addr) (kd : ClassId) (xe0 : Int32) (xe1 : Int32) (z0 : Int32) (h0 : Heap) (n0 : Nat) (Z0 : n0 ≤ h0.size) (O0 : Old Z n0 h0) (Esx1 : Exa Z h0 x1 kS1) (Fcx1 : Fld Z h0 x1 kS1 "coder" "B" (.int 0)) (Fvx1 : Fld Z h0 x1 kS1 "value" "[B" (.ref t1)) (Vsx1 : Arv Z h0 t1 k1 .byte (1 : Int32) [(.int xs0)] (.int 0)) (Eb : Exa Z h0 a1 kS2) (Fbv : Fld Z h0 a1 kS0 "value" "[B" (.ref d1)) (Fbc : Fld Z h0 a1 kS0 "coder" "B" (.int 0)) (Fbn : Fld Z h0 a1 kS0 "count" "I" (.int 2)) (Vb : Arv Z h0 d1 kd .byte (16 : Int32) [(.int xe0), (.int xe1), (.int 0), (.int 0), (.int 0), (.int 0), (.int 0), (.int 0), (.int 0), (.int 0), (.int 0), (.int 0), (.int 0), (.int 0), (.int 0), (.int 0)] (.int 0)) (SZc : Sta Z Z.heap kS1 "COMPACT_STRINGS" "Z" (.int z0)) (hz0 : ¬ z0 = 0) (ga : n0 ≤ a1) (gd : n0 ≤ d1) (ned : t1 ≠ d1) :
  OwnM l Z h0 (⟨kS0, "append", kS3⟩ : MethodName) (Jvm.Cond.code (⟨kS0, "append", kS3⟩ : MethodName) jdk_68_method_22_code 3 (some (.object kS0)) :: ws) (RM 3 0 0 47) #[(.ref a1), (.ref x1)] (Qrm_aa_1_2_16 Z x1 t1 k1 xs0 a1 d1 kd xe0 xe1 z0 h0 n0) := by
 refine MetFree.of_bodySF (plainFor_of_name pn_2) hisR ?_
 intro p e s m args below meth c s₁ Bd hml0 hP hK
 obtain ⟨rfl, hZ, hh⟩ := hP
 have hx := Bd.exec
 have hby := Bd.bytes
 have hml : c.maxLocals = 3 := hml0
 have hown : s.vm.findClass kS0 = some m.cls := findClass_of_methodNamed Bd.named
 have hnm := (name_of_methodNamed Bd.named Bd.method).1
 have X0 : Stand p l e (RM 3 0 0 47) s m #[(.ref a1), (.ref x1)] below meth c s₁ [] 0 0 := Stand.of_body Bd
 have e0 : s₁.heap = h0 := by rw [← hh, Bd.state]; rfl
 have N0 := Fr.nil n0
 have pre0 : ∀ t, GO p e below s₁ (mkF m 0 (la11 a1 x1) []) t → GO p e below s₁ (entryFrame m #[(.ref a1), (.ref x1)] 3) t := fun t k => castTop (ef_rm_aa_1_2_16 m a1 x1) k
 have lt_Esx1 := ltA Esx1.lt
 have lt_Fcx1 := ltA Fcx1.lt
 have lt_Fvx1 := ltA Fvx1.lt
 have lt_Vsx1 := ltA Vsx1.lt
 have lt_Eb := ltA Eb.lt
 have lt_Fbv := ltA Fbv.lt
 have lt_Fbc := ltA Fbc.lt
 have lt_Fbn := ltA Fbn.lt
 have lt_Vb := ltA Vb.lt
 -- pc 10: String.length by rm_sl1
 obtain ⟨cq408, kq408, q408a, q408b, q408c⟩ := isOf hZ e0 Esx1
 obtain ⟨_, _, ⟨T408, L408, k408, n408⟩, -, X408, ⟨Lc408, hQ408, l408, y408, z408⟩, st408⟩ := X0.virtualBack hx (y := (⟨kS1, "length", "()I"⟩ : MethodName)) (z := (⟨kS1, "length", "()I"⟩ : MethodName)) hown (mvT hZ (wd hw 54 rfl)) (mvT hZ (wd hw 55 rfl)) (notFace_of_selects (args := #[]) (mvT hZ (wd hw 57 rfl))) (mvT hZ (wd hw 57 rfl)) (mvT hZ (wd hw 56 rfl)) (by decide) (backOf (W := 0) (rm_sl1 l Z a0 hw [] x1 t1 k1 xs0 z0 h0 n0 (by omega) O0 Esx1 Fcx1 Fvx1 Vsx1 (by first | assumption | decide | omega) (by first | assumption | decide | omega)) hZ (wd hw 58 rfl) (wd hw 3 rfl) (by decide) (by decide)) q408a q408c (g := (mkF m 10 (la11 a1 x1) [(.ref x1)])) rfl (by rw [hml]; rfl) (Steps.refl _) (argsL := []) (rest := []) (lenOf pd_8 rfl) rfl (wz rfl) (hb hby d8_10) (fun _ _ => ⟨rfl, e0, (by decide : 0 + 0 ≤ _), (by decide : 0 + 0 ≤ _)⟩)
 dsimp only [Pt.U, Pt.locs, Pt.cells, Pt.slots] at X408 l408 y408 z408 st408 hQ408
 subst l408 y408 z408
 obtain ⟨rfl, N408q, e408⟩ := hQ408
 have N408 := Fr.app N0 N408q
 obtain ⟨T409, X409, e409, st409⟩ := getF X408 hx hZ hown (host := "") (Or.inl (wd hw 65 rfl)) Via.refl e408 Fbn (g := (mkF m 16 (la12 a1 x1 (1 : Int32)) [(.ref a1), (.ref a1)])) rfl rfl (hb hby d8_16)
 -- pc 21: AbstractStringBuilder.ensureCapacityInternal by rm_en_16
 obtain ⟨cq410, q410a, q410b⟩ := Eb.cell
 obtain ⟨_, _, ⟨T410, L410, k410, n410⟩, -, X410, ⟨Lc410, hQ410, l410, y410, z410⟩, st410⟩ := X409.privateBack hx (y := (⟨kS0, "ensureCapacityInternal", "(I)V"⟩ : MethodName)) hown (mvT hZ (wd hw 67 rfl)) (mvT hZ (wd hw 68 rfl)) (mvT hZ (own_selfsel (wd hw 70 rfl) (wd hw 69 rfl) (wd hw 68 rfl) (by decide))) (Cond.privateMethod_at (mvP hZ (wd hw 69 rfl) (args := #[]))) (mvT hZ (wd hw 71 rfl)) (by decide) (backOf (W := 0) (rm_en_16 l Z a0 hw [] a1 d1 kd ([(.int xe0), (.int xe1), (.int 0), (.int 0), (.int 0), (.int 0), (.int 0), (.int 0), (.int 0), (.int 0), (.int 0), (.int 0), (.int 0), (.int 0), (.int 0), (.int 0)]) (3 : Int32) h0 n0 (by omega) Fbv Fbc Vb (by decide)) hZ (wd hw 71 rfl) (wd hw 36 rfl) (by decide) (by decide)) (g := (mkF m 21 (la12 a1 x1 (1 : Int32)) [(.int 3), (.ref a1)])) rfl (by rw [hml]; rfl) (Steps.refl _) (a := a1) (by rw [e409]; exact q410a) q410b (argsL := [(.int 3)]) (rest := []) (lenOf pd_5 rfl) rfl (wz rfl) (hb hby d8_21) (fun _ _ => ⟨rfl, e409, (by decide : 0 + 0 ≤ _), (by decide : 0 + 0 ≤ _)⟩)
 dsimp only [Pt.U, Pt.locs, Pt.cells, Pt.slots] at X410 l410 y410 z410 st410 hQ410
 subst l410 y410 z410
 obtain ⟨rfl, N410q, e410⟩ := hQ410
 have N410 := Fr.app N408 N410q
 obtain ⟨T411, X411, e411, st411⟩ := getF X410 hx hZ hown (host := "") (Or.inl (wd hw 65 rfl)) Via.refl e410 Fbn (g := (mkF m 26 (la12 a1 x1 (1 : Int32)) [(.ref a1), (.ref a1)])) rfl rfl (hb hby d8_26)
 -- pc 30: AbstractStringBuilder.putStringAt by rm_ps_1_2_16
 obtain ⟨cq412, q412a, q412b⟩ := Eb.cell
 obtain ⟨_, _, ⟨T412, L412, k412, n412⟩, -, X412, ⟨Lc412, hQ412, l412, y412, z412⟩, st412⟩ := X411.privateBack hx (y := (⟨kS0, "putStringAt", "(ILjava/lang/String;)V"⟩ : MethodName)) hown (mvT hZ (wd hw 72 rfl)) (mvT hZ (wd hw 73 rfl)) (mvT hZ (own_selfsel (wd hw 75 rfl) (wd hw 74 rfl) (wd hw 73 rfl) (by decide))) (Cond.privateMethod_at (mvP hZ (wd hw 74 rfl) (args := #[]))) (mvT hZ (wd hw 76 rfl)) (by decide) (backOf (W := 0) (rm_ps_1_2_16 l Z a0 hw [] x1 t1 k1 xs0 a1 d1 kd xe0 xe1 z0 h0 n0 (by omega) O0 Esx1 Fcx1 Fvx1 Vsx1 Eb Fbv Fbc Fbn Vb (by first | assumption | decide | omega) (by first | assumption | decide | omega) (by first | assumption | decide | omega) ned) hZ (wd hw 76 rfl) (wd hw 36 rfl) (by decide) (by decide)) (g := (mkF m 30 (la12 a1 x1 (1 : Int32)) [(.ref x1), (.int 2), (.ref a1)])) rfl (by rw [hml]; rfl) (Steps.refl _) (a := a1) (by rw [e411]; exact q412a) q412b (argsL := [(.int 2), (.ref x1)]) (rest := []) (lenOf pd_9 rfl) rfl (wz rfl) (hb hby d8_30) (fun _ _ => ⟨rfl, e411, (by decide : 0 + 0 ≤ _), (by decide : 0 + 0 ≤ _)⟩)
 dsimp only [Pt.U, Pt.locs, Pt.cells, Pt.slots] at X412 l412 y412 z412 st412 hQ412
 subst l412 y412 z412
 obtain ⟨h412, e412⟩ : ∃ z, T412.heap = z := ⟨_, rfl⟩
 rw [e412] at hQ412
 obtain ⟨rfl, N412q, K412, p412_0⟩ := hQ412
 have N412 := Fr.app N410 N412q
 have ne413 : d1 ≠ x1 := Ne.symm (Exa.neArv Esx1 Vb (wd hw 2 rfl))
 have ne414 : d1 ≠ a1 := Ne.symm (Exa.neArv Eb Vb (wd hw 27 rfl))
 have sz412 : h0.size ≤ h412.size := K412.1
 have lt412_0 := ltA p412_0.lt
 have f415 : Fld Z h412 a1 kS0 "count" "I" (.int 2) := (Fbn.keep K412 (ninS (Ne.symm ne414) nin0))
 obtain ⟨T416, X416, e416, st416⟩ := getF X412 hx hZ hown (host := "") (Or.inl (wd hw 65 rfl)) Via.refl e412 f415 (g := (mkF m 35 (la12 a1 x1 (1 : Int32)) [(.ref a1), (.ref a1)])) rfl rfl (hb hby d8_35)
 have f417 : Exa Z h412 a1 kS2 := (Eb.keep K412)
 obtain ⟨T418, h418, X418, e418, W418, st418⟩ := putF X416 hx hZ hown (host := "") (Or.inl (wd hw 65 rfl)) Via.refl e416 f415 f417 (Or.inl (wd hw 66 rfl)) (wd hw 27 rfl) (ty := .int) (by decide) rfl rfl (g := (mkF m 40 (la12 a1 x1 (1 : Int32)) [(.int 3), (.ref a1)])) rfl rfl (hb hby d8_40)
 have N418 := Fr.snoc X418 N412 (by omega : n0 ≤ a1)
 have f419 : Exa Z h412 x1 kS1 := (Esx1.keep K412)
 have ne420 : a1 ≠ x1 := ne_exa f417 f419 (by decide)
 have f421 : Arv Z h412 t1 k1 .byte (1 : Int32) [(.int xs0)] (.int 0) := (Vsx1.keep K412 (ninS ned nin0))
 have ne422 : a1 ≠ t1 := Exa.neArv f417 f421 (wd hw 27 rfl)
 have sz418 : h412.size ≤ h418.size := Nat.le_of_eq W418.size.symm
 have f418 : Fld Z h418 a1 kS0 "count" "I" (.int 3) := f415.same W418
 have f423 : Exa Z h418 a1 kS2 := (f417.wr W418)
 have f424 : Fld Z h418 a1 kS0 "value" "[B" (.ref d1) := ((Fbv.keep K412 (ninS (Ne.symm ne414) nin0)).other W418 (Or.inr (slot_ne (Or.inl (wd hw 41 rfl)) (Or.inl (wd hw 66 rfl)) (by decide) (t := (.array .byte)) (t' := .int) (by decide) (by decide))))
 have f425 : Fld Z h418 a1 kS0 "coder" "B" (.int 0) := ((Fbc.keep K412 (ninS (Ne.symm ne414) nin0)).other W418 (Or.inr (slot_ne (Or.inl (wd hw 43 rfl)) (Or.inl (wd hw 66 rfl)) (by decide) (t := .byte) (t' := .int) (by decide) (by decide))))
 have f426 : Arv Z h418 d1 kd .byte (16 : Int32) [(.int xe0), (.int xe1), (.int xs0), (.int 0), (.int 0), (.int 0), (.int 0), (.int 0), (.int 0), (.int 0), (.int 0), (.int 0), (.int 0), (.int 0), (.int 0), (.int 0)] (.int 0) := (p412_0.other W418 ne414)
 obtain ⟨fs, hr, hrun, hended, hW, hsame⟩ := X418.leave (v := some (.ref a1)) (fun h => by rw [Bd.returns] at h; cases h)
 refine ⟨_, _, pre0 _ ?_, hrun, hended, _, _, rfl, ?_, ⟨_, rfl⟩, hW, hsame.mono (by decide) (by decide)⟩
 ·show GO p e below s₁ (mkF m 0 (la11 a1 x1) []) _
  refine XS.aloadN X0.here hx rfl (hb hby d8_0) rfl rfl ?_
  show GO p e below s₁ (mkF m 1 (la11 a1 x1) [(.ref x1)]) _
  refine XS.ifnonnullYes X0.here hx rfl (pc0 := 1) (pc' := 9) rfl (hb hby d8_1) rfl (by decide) (by decide) ?_
  show GO p e below s₁ (mkF m 9 (la11 a1 x1) []) _
  refine XS.aloadN X0.here hx rfl (hb hby d8_9) rfl rfl ?_
  show GO p e below s₁ (mkF m 10 (la11 a1 x1) [(.ref x1)]) _
  refine st408.trans ?_
  show GO p e below T408 (mkF m 13 (la11 a1 x1) [(.int 1)]) _
  refine XS.istoreN X408.here hx rfl (hb hby d8_13) rfl (l' := (la12 a1 x1 (1 : Int32))) rfl ?_
  show GO p e below T408 (mkF m 14 (la12 a1 x1 (1 : Int32)) []) _
  refine XS.aloadN X408.here hx rfl (hb hby d8_14) rfl rfl ?_
  show GO p e below T408 (mkF m 15 (la12 a1 x1 (1 : Int32)) [(.ref a1)]) _
  refine XS.aloadN X408.here hx rfl (hb hby d8_15) rfl rfl ?_
  show GO p e below T408 (mkF m 16 (la12 a1 x1 (1 : Int32)) [(.ref a1), (.ref a1)]) _
  refine st409 _ ?_
  show GO p e below T409 (mkF m 19 (la12 a1 x1 (1 : Int32)) [(.int 2), (.ref a1)]) _
  refine XS.iloadN X409.here hx rfl (hb hby d8_19) rfl ?_
  show GO p e below T409 (mkF m 20 (la12 a1 x1 (1 : Int32)) [(.int 1), (.int 2), (.ref a1)]) _
  refine XS.iadd X409.here hx rfl (hb hby d8_20) rfl ?_
  rw [show ((2 : Int32) + (1 : Int32)) = (3 : Int32) from by decide]
  show GO p e below T409 (mkF m 21 (la12 a1 x1 (1 : Int32)) [(.int 3), (.ref a1)]) _
  refine st410.trans ?_
  show GO p e below T410 (mkF m 24 (la12 a1 x1 (1 : Int32)) []) _
  refine XS.aloadN X410.here hx rfl (hb hby d8_24) rfl rfl ?_
  show GO p e below T410 (mkF m 25 (la12 a1 x1 (1 : Int32)) [(.ref a1)]) _
  refine XS.aloadN X410.here hx rfl (hb hby d8_25) rfl rfl ?_
  show GO p e below T410 (mkF m 26 (la12 a1 x1 (1 : Int32)) [(.ref a1), (.ref a1)]) _
  refine st411 _ ?_
  show GO p e below T411 (mkF m 29 (la12 a1 x1 (1 : Int32)) [(.int 2), (.ref a1)]) _
  refine XS.aloadN X411.here hx rfl (hb hby d8_29) rfl rfl ?_
  show GO p e below T411 (mkF m 30 (la12 a1 x1 (1 : Int32)) [(.ref x1), (.int 2), (.ref a1)]) _
  refine st412.trans ?_
  show GO p e below T412 (mkF m 33 (la12 a1 x1 (1 : Int32)) []) _
  refine XS.aloadN X412.here hx rfl (hb hby d8_33) rfl rfl ?_
  show GO p e below T412 (mkF m 34 (la12 a1 x1 (1 : Int32)) [(.ref a1)]) _
  refine XS.dup X412.here hx rfl (hb hby d8_34) rfl rfl ?_
  show GO p e below T412 (mkF m 35 (la12 a1 x1 (1 : Int32)) [(.ref a1), (.ref a1)]) _
  refine st416 _ ?_
  show GO p e below T416 (mkF m 38 (la12 a1 x1 (1 : Int32)) [(.int 2), (.ref a1)]) _
  refine XS.iloadN X416.here hx rfl (hb hby d8_38) rfl ?_
  show GO p e below T416 (mkF m 39 (la12 a1 x1 (1 : Int32)) [(.int 1), (.int 2), (.ref a1)]) _
  refine XS.iadd X416.here hx rfl (hb hby d8_39) rfl ?_
  rw [show ((2 : Int32) + (1 : Int32)) = (3 : Int32) from by decide]
  show GO p e below T416 (mkF m 40 (la12 a1 x1 (1 : Int32)) [(.int 3), (.ref a1)]) _
  refine st418 _ ?_
  show GO p e below T418 (mkF m 43 (la12 a1 x1 (1 : Int32)) []) _
  refine XS.aloadN X418.here hx rfl (hb hby d8_43) rfl rfl ?_
  show GO p e below T418 (mkF m 44 (la12 a1 x1 (1 : Int32)) [(.ref a1)]) _
  exact retOut X418 hx Bd.returns rfl (Or.inr (Or.inr (Or.inr (Or.inr ⟨rfl, rfl, rfl⟩)))) (hb hby d8_44) hr
 ·show Qrm_aa_1_2_16 Z x1 t1 k1 xs0 a1 d1 kd xe0 xe1 z0 h0 n0 _ T418.heap _
  rw [e418]
  exact ⟨rfl, N418, (((Keep.refl h0 [a1, d1]).trans K412 (allS (P := fun x => x ∈ _ ∨ _) (Or.inl (List.mem_of_getElem? (i := 1) rfl)) all0)).wr W418 (Or.inl (List.mem_of_getElem? (i := 0) rfl))), f423, f424, f425, f418, f426⟩
def Qrm_sa_1_2_16 (Z : State) (x1 : Addr) (t1 : Addr) (k1 : ClassId) (xs0 : Int32) (a1 : Addr) (d1 : Addr) (kd : ClassId) (xe0 : Int32) (xe1 : Int32) (z0 : Int32) (h0 : Heap) (n0 : Nat) (v : Option Value) (h : Heap) (L : List Loc) : Prop := v = some (.ref a1) ∧ Fr n0 L ∧ Keep h0 h [a1, d1] ∧ Exa Z h a1 kS2 ∧ Fld Z h a1 kS0 "value" "[B" (.ref d1) ∧ Fld Z h a1 kS0 "coder" "B" (.int 0) ∧ Fld Z h a1 kS0 "count" "I" (.int 3) ∧ Arv Z h d1 kd .byte (16 : Int32) [(.int xe0), (.int xe1), (.int xs0), (.int 0), (.int 0), (.int 0), (.int 0), (.int 0), (.int 0), (.int 0), (.int 0), (.int 0), (.int 0), (.int 0), (.int 0), (.int 0)] (.int 0)
theorem ef_rm_sa_1_2_16 (m : MethodId) (x0 : Addr) (x1 : Addr) : entryFrame m #[(.ref x0), (.ref x1)] 2 = mkF m 0 #[.val (.ref x0), .val (.ref x1)] [] := by first | rfl | (simp [entryFrame, mkF, argsToLocals, Value.category]; done)
theorem rm_sa_1_2_16 (l : Launch) (Z : State) (a0 : Array Value) (hw : HW Z a0) (ws : List Jvm.Cond) (x1 : Addr) (t1 : Addr) (k1 : ClassId) (xs0 : Int32) (a1 : Addr) (d1 : Addr) (kd : ClassId) (xe0 : Int32) (xe1 : Int32) (z0 : Int32) (h0 : Heap) (n0 : Nat) (Z0 : n0 ≤ h0.size) (O0 : Old Z n0 h0) (Esx1 : Exa Z h0 x1 kS1) (Fcx1 : Fld Z h0 x1 kS1 "coder" "B" (.int 0)) (Fvx1 : Fld Z h0 x1 kS1 "value" "[B" (.ref t1)) (Vsx1 : Arv Z h0 t1 k1 .byte (1 : Int32) [(.int xs0)] (.int 0)) (Eb : Exa Z h0 a1 kS2) (Fbv : Fld Z h0 a1 kS0 "value" "[B" (.ref d1)) (Fbc : Fld Z h0 a1 kS0 "coder" "B" (.int 0)) (Fbn : Fld Z h0 a1 kS0 "count" "I" (.int 2)) (Vb : Arv Z h0 d1 kd .byte (16 : Int32) [(.int xe0), (.int xe1), (.int 0), (.int 0), (.int 0), (.int 0), (.int 0), (.int 0), (.int 0), (.int 0), (.int 0), (.int 0), (.int 0), (.int 0), (.int 0), (.int 0)] (.int 0)) (SZc : Sta Z Z.heap kS1 "COMPACT_STRINGS" "Z" (.int z0)) (hz0 : ¬ z0 = 0) (ga : n0 ≤ a1) (gd : n0 ≤ d1) (ned : t1 ≠ d1) :
  OwnM l Z h0 (⟨kS2, "append", "(Ljava/lang/String;)Ljava/lang/StringBuilder;"⟩ : MethodName) (Jvm.Cond.code (⟨kS2, "append", "(Ljava/lang/String;)Ljava/lang/StringBuilder;"⟩ : MethodName) jdk_67_method_7_code 2 (some (.object kS2)) :: ws) (RM 4 0 0 61) #[(.ref a1), (.ref x1)] (Qrm_sa_1_2_16 Z x1 t1 k1 xs0 a1 d1 kd xe0 xe1 z0 h0 n0) := by
 refine MetFree.of_bodySF (plainFor_of_name pn_3) hisR ?_
 intro p e s m args below meth c s₁ Bd hml0 hP hK
 obtain ⟨rfl, hZ, hh⟩ := hP
 have hx := Bd.exec
 have hby := Bd.bytes
 have hml : c.maxLocals = 2 := hml0
 have hown : s.vm.findClass kS2 = some m.cls := findClass_of_methodNamed Bd.named
 have hnm := (name_of_methodNamed Bd.named Bd.method).1
 have X0 : Stand p l e (RM 4 0 0 61) s m #[(.ref a1), (.ref x1)] below meth c s₁ [] 0 0 := Stand.of_body Bd
 have e0 : s₁.heap = h0 := by rw [← hh, Bd.state]; rfl
 have N0 := Fr.nil n0
 have pre0 : ∀ t, GO p e below s₁ (mkF m 0 #[.val (.ref a1), .val (.ref x1)] []) t → GO p e below s₁ (entryFrame m #[(.ref a1), (.ref x1)] 2) t := fun t k => castTop (ef_rm_sa_1_2_16 m a1 x1) k
 have lt_Esx1 := ltA Esx1.lt
 have lt_Fcx1 := ltA Fcx1.lt
 have lt_Fvx1 := ltA Fvx1.lt
 have lt_Vsx1 := ltA Vsx1.lt
 have lt_Eb := ltA Eb.lt
 have lt_Fbv := ltA Fbv.lt
 have lt_Fbc := ltA Fbc.lt
 have lt_Fbn := ltA Fbn.lt
 have lt_Vb := ltA Vb.lt
 -- pc 2: AbstractStringBuilder.append by rm_aa_1_2_16
 obtain ⟨_, _, ⟨T427, L427, k427, n427⟩, -, X427, ⟨Lc427, hQ427, l427, y427, z427⟩, st427⟩ := superBack X0 hx hZ (y := (⟨kS0, "append", kS3⟩ : MethodName)) hown (wd hw 49 rfl) (own_sameM (y := (⟨kS0, "append", kS3⟩ : MethodName)) (wd hw 50 rfl) (wd hw 70 rfl) rfl (by decide)) (wd hw 50 rfl) (wd hw 51 rfl) (by decide) (backOf (W := 0) (rm_aa_1_2_16 l Z a0 hw [] x1 t1 k1 xs0 a1 d1 kd xe0 xe1 z0 h0 n0 (by omega) O0 Esx1 Fcx1 Fvx1 Vsx1 Eb Fbv Fbc Fbn Vb (by first | assumption | decide | omega) (by first | assumption | decide | omega) (by first | assumption | decide | omega) (by first | assumption | decide | omega) ned) hZ (wd hw 53 rfl) (wd hw 36 rfl) (by decide) (by decide)) e0 (Ins.self Eb) (g := (mkF m 2 #[.val (.ref a1), .val (.ref x1)] [(.ref x1), (.ref a1)])) rfl (by rw [hml]; rfl) (wd hw 53 rfl) (argsL := [(.ref x1)]) (rest := []) (lenOf pd_10 rfl) rfl (wz rfl) (hb hby d7_2) (fun _ _ => ⟨rfl, e0, (by decide : 0 + 0 ≤ _), (by decide : 0 + 0 ≤ _)⟩)
 dsimp only [Pt.U, Pt.locs, Pt.cells, Pt.slots] at X427 l427 y427 z427 st427 hQ427
 subst l427 y427 z427
 obtain ⟨h427, e427⟩ : ∃ z, T427.heap = z := ⟨_, rfl⟩
 rw [e427] at hQ427
 obtain ⟨rfl, N427q, K427, p427_0, p427_1, p427_2, p427_3, p427_4⟩ := hQ427
 have N427 := Fr.app N0 N427q
 have ne428 : a1 ≠ x1 := ne_exa Eb Esx1 (by decide)
 have ne429 : a1 ≠ t1 := Exa.neArv Eb Vsx1 (wd hw 27 rfl)
 have ne430 : a1 ≠ d1 := Exa.neArv Eb Vb (wd hw 27 rfl)
 have ne431 : d1 ≠ x1 := Ne.symm (Exa.neArv Esx1 Vb (wd hw 2 rfl))
 have sz427 : h0.size ≤ h427.size := K427.1
 have lt427_0 := ltA p427_0.lt
 have lt427_4 := ltA p427_4.lt
 obtain ⟨fs, hr, hrun, hended, hW, hsame⟩ := X427.leave (v := some (.ref a1)) (fun h => by rw [Bd.returns] at h; cases h)
 refine ⟨_, _, pre0 _ ?_, hrun, hended, _, _, rfl, ?_, ⟨_, rfl⟩, hW, hsame.mono (by decide) (by decide)⟩
 ·show GO p e below s₁ (mkF m 0 #[.val (.ref a1), .val (.ref x1)] []) _
  refine XS.aloadN X0.here hx rfl (hb hby d7_0) rfl rfl ?_
  show GO p e below s₁ (mkF m 1 #[.val (.ref a1), .val (.ref x1)] [(.ref a1)]) _
  refine XS.aloadN X0.here hx rfl (hb hby d7_1) rfl rfl ?_
  show GO p e below s₁ (mkF m 2 #[.val (.ref a1), .val (.ref x1)] [(.ref x1), (.ref a1)]) _
  refine st427.trans ?_
  show GO p e below T427 (mkF m 5 #[.val (.ref a1), .val (.ref x1)] [(.ref a1)]) _
  refine XS.pop X427.here hx rfl (hb hby d7_5) rfl rfl ?_
  show GO p e below T427 (mkF m 6 #[.val (.ref a1), .val (.ref x1)] []) _
  refine XS.aloadN X427.here hx rfl (hb hby d7_6) rfl rfl ?_
  show GO p e below T427 (mkF m 7 #[.val (.ref a1), .val (.ref x1)] [(.ref a1)]) _
  exact retOut X427 hx Bd.returns rfl (Or.inr (Or.inr (Or.inr (Or.inr ⟨rfl, rfl, rfl⟩)))) (hb hby d7_7) hr
 ·show Qrm_sa_1_2_16 Z x1 t1 k1 xs0 a1 d1 kd xe0 xe1 z0 h0 n0 _ T427.heap _
  rw [e427]
  exact ⟨rfl, N427, ((Keep.refl h0 [a1, d1]).trans K427 (allS (P := fun x => x ∈ _ ∨ _) (Or.inl (List.mem_of_getElem? (i := 0) rfl)) (allS (P := fun x => x ∈ _ ∨ _) (Or.inl (List.mem_of_getElem? (i := 1) rfl)) all0))), p427_0, p427_1, p427_2, p427_3, p427_4⟩
def Qrm_cl3 (Z : State)  (h0 : Heap) (n0 : Nat) (v : Option Value) (h : Heap) (L : List Loc) : Prop := v = none ∧ Fr n0 L ∧ h = h0
theorem ef_rm_cl3 (m : MethodId) (x0 : Int32) (x1 : Int32) : entryFrame m #[(.int x0), (.int x1)] 2 = mkF m 0 #[.val (.int x0), .val (.int x1)] [] := by first | rfl | (simp [entryFrame, mkF, argsToLocals, Value.category]; done)
theorem rm_cl3 (l : Launch) (Z : State) (a0 : Array Value) (hw : HW Z a0) (ws : List Jvm.Cond)  (h0 : Heap) (n0 : Nat) (Z0 : n0 ≤ h0.size) :
  OwnM l Z h0 (⟨"java/util/Arrays", "checkLength", "(II)V"⟩ : MethodName) (Jvm.Cond.code (⟨"java/util/Arrays", "checkLength", "(II)V"⟩ : MethodName) jdk_65_method_131_code 2 none :: ws) (RM 0 0 0 0) #[(.int 0), (.int 3)] (Qrm_cl3 Z  h0 n0) := by
 refine MetFree.of_bodySF (plainFor_of_name pn_4) hisR ?_
 intro p e s m args below meth c s₁ Bd hml0 hP hK
 obtain ⟨rfl, hZ, hh⟩ := hP
 have hx := Bd.exec
 have hby := Bd.bytes
 have hml : c.maxLocals = 2 := hml0
 have hown : s.vm.findClass "java/util/Arrays" = some m.cls := findClass_of_methodNamed Bd.named
 have hnm := (name_of_methodNamed Bd.named Bd.method).1
 have X0 : Stand p l e (RM 0 0 0 0) s m #[(.int 0), (.int 3)] below meth c s₁ [] 0 0 := Stand.of_body Bd
 have e0 : s₁.heap = h0 := by rw [← hh, Bd.state]; rfl
 have N0 := Fr.nil n0
 have pre0 : ∀ t, GO p e below s₁ (mkF m 0 #[.val (.int 0), .val (.int 3)] []) t → GO p e below s₁ (entryFrame m #[(.int 0), (.int 3)] 2) t := fun t k => castTop (ef_rm_cl3 m ((0 : Int32)) ((3 : Int32))) k
 obtain ⟨fs, hr, hrun, hended, hW, hsame⟩ := X0.leave (v := none) (fun _ => rfl)
 refine ⟨_, _, pre0 _ ?_, hrun, hended, _, _, rfl, ?_, ⟨_, rfl⟩, hW, hsame.mono (by decide) (by decide)⟩
 ·show GO p e below s₁ (mkF m 0 #[.val (.int 0), .val (.int 3)] []) _
  refine XS.iloadN X0.here hx rfl (hb hby d24_0) rfl ?_
  show GO p e below s₁ (mkF m 1 #[.val (.int 0), .val (.int 3)] [(.int 3)]) _
  refine XS.iloadN X0.here hx rfl (hb hby d24_1) rfl ?_
  show GO p e below s₁ (mkF m 2 #[.val (.int 0), .val (.int 3)] [(.int 0), (.int 3)]) _
  refine XS.icmpYes X0.here hx rfl (pc0 := 2) (pc' := 37) rfl (hb hby d24_2) rfl (flt ((by decide) : ¬ ((3 : Int32) < (0 : Int32)))).2.1 (by decide) (by decide) ?_
  show GO p e below s₁ (mkF m 37 #[.val (.int 0), .val (.int 3)] []) _
  exact X0.returnOut hx Bd.returns (hb hby d24_37) hr
 ·show Qrm_cl3 Z  h0 n0 _ s₁.heap _
  rw [e0]
  exact ⟨rfl, N0, rfl⟩
def Qrm_mi_16_3 (Z : State)  (h0 : Heap) (n0 : Nat) (v : Option Value) (h : Heap) (L : List Loc) : Prop := v = some (.int 3) ∧ Fr n0 L ∧ h = h0
theorem ef_rm_mi_16_3 (m : MethodId) (x0 : Int32) (x1 : Int32) : entryFrame m #[(.int x0), (.int x1)] 2 = mkF m 0 #[.val (.int x0), .val (.int x1)] [] := by first | rfl | (simp [entryFrame, mkF, argsToLocals, Value.category]; done)
theorem rm_mi_16_3 (l : Launch) (Z : State) (a0 : Array Value) (hw : HW Z a0) (ws : List Jvm.Cond)  (h0 : Heap) (n0 : Nat) (Z0 : n0 ≤ h0.size) :
  OwnM l Z h0 (⟨"java/lang/Math", "min", "(II)I"⟩ : MethodName) (Jvm.Cond.code (⟨"java/lang/Math", "min", "(II)I"⟩ : MethodName) jdk_29_method_69_code 2 (some .int) :: ws) (RM 0 0 0 0) #[(.int 16), (.int 3)] (Qrm_mi_16_3 Z  h0 n0) := by
 refine MetFree.of_bodySF (Jvm.Free.JP.mathPlain rfl (by decide +kernel)) hisR ?_
 intro p e s m args below meth c s₁ Bd hml0 hP hK
 obtain ⟨rfl, hZ, hh⟩ := hP
 have hx := Bd.exec
 have hby := Bd.bytes
 have hml : c.maxLocals = 2 := hml0
 have hown : s.vm.findClass "java/lang/Math" = some m.cls := findClass_of_methodNamed Bd.named
 have hnm := (name_of_methodNamed Bd.named Bd.method).1
 have X0 : Stand p l e (RM 0 0 0 0) s m #[(.int 16), (.int 3)] below meth c s₁ [] 0 0 := Stand.of_body Bd
 have e0 : s₁.heap = h0 := by rw [← hh, Bd.state]; rfl
 have N0 := Fr.nil n0
 have pre0 : ∀ t, GO p e below s₁ (mkF m 0 #[.val (.int 16), .val (.int 3)] []) t → GO p e below s₁ (entryFrame m #[(.int 16), (.int 3)] 2) t := fun t k => castTop (ef_rm_mi_16_3 m ((16 : Int32)) ((3 : Int32))) k
 obtain ⟨fs, hr, hrun, hended, hW, hsame⟩ := X0.leave (v := some (.int 3)) (fun h => by rw [Bd.returns] at h; cases h)
 refine ⟨_, _, pre0 _ ?_, hrun, hended, _, _, rfl, ?_, ⟨_, rfl⟩, hW, hsame.mono (by decide) (by decide)⟩
 ·show GO p e below s₁ (mkF m 0 #[.val (.int 16), .val (.int 3)] []) _
  refine XS.iloadN X0.here hx rfl (hb hby d25_0) rfl ?_
  show GO p e below s₁ (mkF m 1 #[.val (.int 16), .val (.int 3)] [(.int 16)]) _
  refine XS.iloadN X0.here hx rfl (hb hby d25_1) rfl ?_
  show GO p e below s₁ (mkF m 2 #[.val (.int 16), .val (.int 3)] [(.int 3), (.int 16)]) _
  refine XS.icmpYes X0.here hx rfl (pc0 := 2) (pc' := 9) rfl (hb hby d25_2) rfl (tlt ((by decide) : (3 : Int32) < (16 : Int32))).2.2.1 (by decide) (by decide) ?_
  show GO p e below s₁ (mkF m 9 #[.val (.int 16), .val (.int 3)] []) _
  refine XS.iloadN X0.here hx rfl (hb hby d25_9) rfl ?_
  show GO p e below s₁ (mkF m 10 #[.val (.int 16), .val (.int 3)] [(.int 3)]) _
  exact retI X0 hx Bd.returns (hb hby d25_10) hr
 ·show Qrm_mi_16_3 Z  h0 n0 _ s₁.heap _
  rw [e0]
  exact ⟨rfl, N0, rfl⟩
def Qrm_cb_3_16 (Z : State) (d1 : Addr) (kd : ClassId) (xe0 : Int32) (xe1 : Int32) (xe2 : Int32) (h0 : Heap) (n0 : Nat) (v : Option Value) (h : Heap) (L : List Loc) : Prop := ∃ t : Addr, ∃ k : ClassId, v = some (.ref t) ∧ Fr n0 L ∧ Keep h0 h [] ∧ Exa Z h t "[B" ∧ Arv Z h t k .byte (3 : Int32) [(.int xe0), (.int xe1), (.int xe2)] (.int 0) ∧ h0.size ≤ t
theorem ef_rm_cb_3_16 (m : MethodId) (x0 : Addr) (x1 : Int32) (x2 : Int32) : entryFrame m #[(.ref x0), (.int x1), (.int x2)] 5 = mkF m 0 (la1 x0 x1 x2) [] := by first | rfl | (simp [entryFrame, mkF, argsToLocals, Value.category]; done)
theorem rm_cb_3_16 (l : Launch) (Z : State) (a0 : Array Value) (hw : HW Z a0) (ws : List Jvm.Cond) (d1 : Addr) (kd : ClassId) (xe0 : Int32) (xe1 : Int32) (xe2 : Int32) (h0 : Heap) (n0 : Nat) (Z0 : n0 ≤ h0.size) (Vd : Arv Z h0 d1 kd .byte (16 : Int32) [(.int xe0), (.int xe1), (.int xe2), (.int 0), (.int 0), (.int 0), (.int 0), (.int 0), (.int 0), (.int 0), (.int 0), (.int 0), (.int 0), (.int 0), (.int 0), (.int 0)] (.int 0)) :
  OwnM l Z h0 (⟨"java/util/Arrays", "copyOfRangeByte", "([BII)[B"⟩ : MethodName) (Jvm.Cond.code (⟨"java/util/Arrays", "copyOfRangeByte", "([BII)[B"⟩ : MethodName) jdk_65_method_133_code 5 (some (.array .byte)) :: ws) (RM 1 1 3 18) #[(.ref d1), (.int 0), (.int 3)] (Qrm_cb_3_16 Z d1 kd xe0 xe1 xe2 h0 n0) := by
 refine MetFree.of_bodySF (plainFor_of_name pn_4) hisR ?_
 intro p e s m args below meth c s₁ Bd hml0 hP hK
 obtain ⟨rfl, hZ, hh⟩ := hP
 have hx := Bd.exec
 have hby := Bd.bytes
 have hml : c.maxLocals = 5 := hml0
 have hown : s.vm.findClass "java/util/Arrays" = some m.cls := findClass_of_methodNamed Bd.named
 have hnm := (name_of_methodNamed Bd.named Bd.method).1
 have X0 : Stand p l e (RM 1 1 3 18) s m #[(.ref d1), (.int 0), (.int 3)] below meth c s₁ [] 0 0 := Stand.of_body Bd
 have e0 : s₁.heap = h0 := by rw [← hh, Bd.state]; rfl
 have N0 := Fr.nil n0
 have pre0 : ∀ t, GO p e below s₁ (mkF m 0 (la1 d1 (0 : Int32) (3 : Int32)) []) t → GO p e below s₁ (entryFrame m #[(.ref d1), (.int 0), (.int 3)] 5) t := fun t k => castTop (ef_rm_cb_3_16 m d1 ((0 : Int32)) ((3 : Int32))) k
 have lt_Vd := ltA Vd.lt
 -- pc 2: Arrays.checkLength by rm_cl3
 obtain ⟨_, _, ⟨T432, L432, k432, n432⟩, -, X432, ⟨Lc432, hQ432, l432, y432, z432⟩, st432⟩ := Jvm.LawKit.callS X0 hx (y := (⟨"java/util/Arrays", "checkLength", "(II)V"⟩ : MethodName)) hown (mvT hZ (wd hw 130 rfl)) (mvT hZ (wd hw 131 rfl)) (mvT hZ (wd hw 125 rfl)) (mvT hZ (wd hw 132 rfl)) (by decide) (backOf (W := 0) (rm_cl3 l Z a0 hw []  h0 n0 (by omega)) hZ (wd hw 132 rfl) (wd hw 125 rfl) (by decide) (by decide)) (g := (mkF m 2 (la1 d1 (0 : Int32) (3 : Int32)) [(.int 3), (.int 0)])) rfl (by rw [hml]; rfl) (argsL := [(.int 0), (.int 3)]) (rest := []) (lenOf pd_11 rfl) rfl (wz rfl) (hb hby d23_2) (fun _ _ => ⟨rfl, e0, (by decide : 0 + 0 ≤ _), (by decide : 0 + 0 ≤ _)⟩)
 dsimp only [Pt.U, Pt.locs, Pt.cells, Pt.slots] at X432 l432 y432 z432 st432 hQ432
 subst l432 y432 z432
 obtain ⟨rfl, N432q, e432⟩ := hQ432
 have N432 := Fr.app N0 N432q
 obtain ⟨T433, h433, k433, X433, e433, E433, A433, Q433, st433⟩ := newPE (ad := "[B") X432 hx hZ (wd hw 15 rfl) e432 (g := (mkF m 10 (la2 d1 (0 : Int32) (3 : Int32) (3 : Int32)) [(.int 3)])) rfl (hb hby d23_10) rfl (by decide) (cap := 3) (by decide) (by decide) (by decide) (by decide) (by decide)
 obtain ⟨b433, g433⟩ : ∃ z, z = h0.size := ⟨_, rfl⟩
 rw [← g433] at A433 st433 Q433
 have sz433 : h0.size ≤ h433.size := E433.1
 have lt433 := ltA A433.lt
 have V433 : Arv Z h433 b433 k433 .byte (3 : Int32) [(.int 0), (.int 0), (.int 0)] (.int 0) := (Arv.new A433 (by decide)).pad (pad_rep [] (.int 0) 3)
 have f434 : Arv Z h433 d1 kd .byte (16 : Int32) [(.int xe0), (.int xe1), (.int xe2), (.int 0), (.int 0), (.int 0), (.int 0), (.int 0), (.int 0), (.int 0), (.int 0), (.int 0), (.int 0), (.int 0), (.int 0), (.int 0)] (.int 0) := (Vd.ext E433)
 obtain ⟨cl435, Ar435, -, S435, M435, -, -⟩ := id f434
 -- pc 24: Math.min by rm_mi_16_3
 obtain ⟨_, _, ⟨T436, L436, k436, n436⟩, -, X436, ⟨Lc436, hQ436, l436, y436, z436⟩, st436⟩ := Jvm.LawKit.callS X433 hx (y := (⟨"java/lang/Math", "min", "(II)I"⟩ : MethodName)) hown (mvT hZ (wd hw 133 rfl)) (mvT hZ (wd hw 134 rfl)) (mvT hZ (wd hw 135 rfl)) (mvT hZ (wd hw 136 rfl)) (by decide) (backOf (W := 4) (rm_mi_16_3 l Z a0 hw []  h433 n0 (by omega)) hZ (wd hw 136 rfl) (wd hw 135 rfl) (by decide) (by decide)) (g := (mkF m 24 (la13 d1 (0 : Int32) (3 : Int32) (3 : Int32) b433) [(.int 3), (.int 16), (.int 0), (.ref b433), (.int 0), (.ref d1)])) rfl (by rw [hml]; rfl) (argsL := [(.int 16), (.int 3)]) (rest := [(.int 0), (.ref b433), (.int 0), (.ref d1)]) (lenOf pd_12 rfl) rfl (wz rfl) (hb hby d23_24) (fun _ _ => ⟨rfl, e433, (by decide : 1 + 0 ≤ _), (by decide : 3 + 0 ≤ _)⟩)
 dsimp only [Pt.U, Pt.locs, Pt.cells, Pt.slots] at X436 l436 y436 z436 st436 hQ436
 subst l436 y436 z436
 obtain ⟨rfl, N436q, e436⟩ := hQ436
 have N436 := Fr.app N432 N436q
 obtain ⟨T437, h437, L437, X437, e437, N437, K437, A437, st437⟩ := cpA X436 hx hZ hown (wd hw 137 rfl) (wd hw 91 rfl) (wd hw 89 rfl) (wd hw 90 rfl) e436 f434 V433 (us := [(.int xe0), (.int xe1), (.int xe2)]) (Or.inl ⟨rfl, rfl⟩) (by decide) (by decide) (by decide) (by decide) (by decide) rfl (Nat.le_of_ble_eq_true rfl) N436 (by omega) (g := (mkF m 27 (la13 d1 (0 : Int32) (3 : Int32) (3 : Int32) b433) [(.int 3), (.int 0), (.ref b433), (.int 0), (.ref d1)])) rfl (by rw [hml]; rfl) rfl (hb hby d23_27) (by decide) (W := 0) (wz rfl) (by decide)
 have sz437 : h433.size ≤ h437.size := K437.1
 have V437 : Arv Z h437 b433 k433 .byte (3 : Int32) [(.int xe0), (.int xe1), (.int xe2)] (.int 0) := A437
 have f438 : Exa Z h437 b433 "[B" := (Q433.keep K437)
 obtain ⟨fs, hr, hrun, hended, hW, hsame⟩ := X437.leave (v := some (.ref b433)) (fun h => by rw [Bd.returns] at h; cases h)
 refine ⟨_, _, pre0 _ ?_, hrun, hended, _, _, rfl, ?_, ⟨_, rfl⟩, hW, hsame.mono (by decide) (by decide)⟩
 ·show GO p e below s₁ (mkF m 0 (la1 d1 (0 : Int32) (3 : Int32)) []) _
  refine XS.iloadN X0.here hx rfl (hb hby d23_0) rfl ?_
  show GO p e below s₁ (mkF m 1 (la1 d1 (0 : Int32) (3 : Int32)) [(.int 0)]) _
  refine XS.iloadN X0.here hx rfl (hb hby d23_1) rfl ?_
  show GO p e below s₁ (mkF m 2 (la1 d1 (0 : Int32) (3 : Int32)) [(.int 3), (.int 0)]) _
  refine st432 _ ?_
  show GO p e below T432 (mkF m 5 (la1 d1 (0 : Int32) (3 : Int32)) []) _
  refine XS.iloadN X432.here hx rfl (hb hby d23_5) rfl ?_
  show GO p e below T432 (mkF m 6 (la1 d1 (0 : Int32) (3 : Int32)) [(.int 3)]) _
  refine XS.iloadN X432.here hx rfl (hb hby d23_6) rfl ?_
  show GO p e below T432 (mkF m 7 (la1 d1 (0 : Int32) (3 : Int32)) [(.int 0), (.int 3)]) _
  refine XS.isub X432.here hx rfl (hb hby d23_7) rfl ?_
  rw [show ((3 : Int32) - (0 : Int32)) = (3 : Int32) from by decide]
  show GO p e below T432 (mkF m 8 (la1 d1 (0 : Int32) (3 : Int32)) [(.int 3)]) _
  refine XS.istoreN X432.here hx rfl (hb hby d23_8) rfl (l' := (la2 d1 (0 : Int32) (3 : Int32) (3 : Int32))) rfl ?_
  show GO p e below T432 (mkF m 9 (la2 d1 (0 : Int32) (3 : Int32) (3 : Int32)) []) _
  refine XS.iloadN X432.here hx rfl (hb hby d23_9) rfl ?_
  show GO p e below T432 (mkF m 10 (la2 d1 (0 : Int32) (3 : Int32) (3 : Int32)) [(.int 3)]) _
  refine st433 _ ?_
  show GO p e below T433 (mkF m 12 (la2 d1 (0 : Int32) (3 : Int32) (3 : Int32)) [(.ref b433)]) _
  refine XS.astore X433.here hx rfl (hb hby d23_12) rfl rfl (l' := (la13 d1 (0 : Int32) (3 : Int32) (3 : Int32) b433)) rfl ?_
  show GO p e below T433 (mkF m 14 (la13 d1 (0 : Int32) (3 : Int32) (3 : Int32) b433) []) _
  refine XS.aloadN X433.here hx rfl (hb hby d23_14) rfl rfl ?_
  show GO p e below T433 (mkF m 15 (la13 d1 (0 : Int32) (3 : Int32) (3 : Int32) b433) [(.ref d1)]) _
  refine XS.iloadN X433.here hx rfl (hb hby d23_15) rfl ?_
  show GO p e below T433 (mkF m 16 (la13 d1 (0 : Int32) (3 : Int32) (3 : Int32) b433) [(.int 0), (.ref d1)]) _
  refine XS.aload X433.here hx rfl (hb hby d23_16) rfl rfl ?_
  show GO p e below T433 (mkF m 18 (la13 d1 (0 : Int32) (3 : Int32) (3 : Int32) b433) [(.ref b433), (.int 0), (.ref d1)]) _
  refine XS.iconst X433.here hx rfl (hb hby d23_18) ?_
  show GO p e below T433 (mkF m 19 (la13 d1 (0 : Int32) (3 : Int32) (3 : Int32) b433) [(.int 0), (.ref b433), (.int 0), (.ref d1)]) _
  refine XS.aloadN X433.here hx rfl (hb hby d23_19) rfl rfl ?_
  show GO p e below T433 (mkF m 20 (la13 d1 (0 : Int32) (3 : Int32) (3 : Int32) b433) [(.ref d1), (.int 0), (.ref b433), (.int 0), (.ref d1)]) _
  refine X433.arraylength hx (by rw [e433]; exact Ar435.1) (State.isArrayOf_alike hZ.alike Ar435.2.1) (g := (mkF m 20 (la13 d1 (0 : Int32) (3 : Int32) (3 : Int32) b433) [(.ref d1), (.int 0), (.ref b433), (.int 0), (.ref d1)])) rfl rfl (hb hby d23_20) _ ?_
  rw [len_of S435 M435]
  show GO p e below T433 (mkF m 21 (la13 d1 (0 : Int32) (3 : Int32) (3 : Int32) b433) [(.int 16), (.int 0), (.ref b433), (.int 0), (.ref d1)]) _
  refine XS.iloadN X433.here hx rfl (hb hby d23_21) rfl ?_
  show GO p e below T433 (mkF m 22 (la13 d1 (0 : Int32) (3 : Int32) (3 : Int32) b433) [(.int 0), (.int 16), (.int 0), (.ref b433), (.int 0), (.ref d1)]) _
  refine XS.isub X433.here hx rfl (hb hby d23_22) rfl ?_
  rw [show ((16 : Int32) - (0 : Int32)) = (16 : Int32) from by decide]
  show GO p e below T433 (mkF m 23 (la13 d1 (0 : Int32) (3 : Int32) (3 : Int32) b433) [(.int 16), (.int 0), (.ref b433), (.int 0), (.ref d1)]) _
  refine XS.iloadN X433.here hx rfl (hb hby d23_23) rfl ?_
  show GO p e below T433 (mkF m 24 (la13 d1 (0 : Int32) (3 : Int32) (3 : Int32) b433) [(.int 3), (.int 16), (.int 0), (.ref b433), (.int 0), (.ref d1)]) _
  refine st436 _ ?_
  show GO p e below T436 (mkF m 27 (la13 d1 (0 : Int32) (3 : Int32) (3 : Int32) b433) [(.int 3), (.int 0), (.ref b433), (.int 0), (.ref d1)]) _
  refine st437 _ ?_
  show GO p e below T437 (mkF m 30 (la13 d1 (0 : Int32) (3 : Int32) (3 : Int32) b433) []) _
  refine XS.aload X437.here hx rfl (hb hby d23_30) rfl rfl ?_
  show GO p e below T437 (mkF m 32 (la13 d1 (0 : Int32) (3 : Int32) (3 : Int32) b433) [(.ref b433)]) _
  exact retOut X437 hx Bd.returns rfl (Or.inr (Or.inr (Or.inr (Or.inr ⟨rfl, rfl, rfl⟩)))) (hb hby d23_32) hr
 ·show Qrm_cb_3_16 Z d1 kd xe0 xe1 xe2 h0 n0 _ T437.heap _
  rw [e437]
  exact ⟨b433, k433, rfl, N437, (((Keep.refl h0 []).ext E433).trans K437 (allS (P := fun x => x ∈ _ ∨ _) (Or.inr (by omega)) all0)), f438, V437, (by omega)⟩
def Qrm_cr_3_16 (Z : State) (d1 : Addr) (kd : ClassId) (xe0 : Int32) (xe1 : Int32) (xe2 : Int32) (h0 : Heap) (n0 : Nat) (v : Option Value) (h : Heap) (L : List Loc) : Prop := ∃ t : Addr, ∃ k : ClassId, v = some (.ref t) ∧ Fr n0 L ∧ Keep h0 h [] ∧ Exa Z h t "[B" ∧ Arv Z h t k .byte (3 : Int32) [(.int xe0), (.int xe1), (.int xe2)] (.int 0) ∧ h0.size ≤ t
theorem ef_rm_cr_3_16 (m : MethodId) (x0 : Addr) (x1 : Int32) (x2 : Int32) : entryFrame m #[(.ref x0), (.int x1), (.int x2)] 3 = mkF m 0 (la9 x0 x1 x2) [] := by first | rfl | (simp [entryFrame, mkF, argsToLocals, Value.category]; done)
theorem rm_cr_3_16 (l : Launch) (Z : State) (a0 : Array Value) (hw : HW Z a0) (ws : List Jvm.Cond) (d1 : Addr) (kd : ClassId) (xe0 : Int32) (xe1 : Int32) (xe2 : Int32) (h0 : Heap) (n0 : Nat) (Z0 : n0 ≤ h0.size) (Vd : Arv Z h0 d1 kd .byte (16 : Int32) [(.int xe0), (.int xe1), (.int xe2), (.int 0), (.int 0), (.int 0), (.int 0), (.int 0), (.int 0), (.int 0), (.int 0), (.int 0), (.int 0), (.int 0), (.int 0), (.int 0)] (.int 0)) :
  OwnM l Z h0 (⟨"java/util/Arrays", "copyOfRange", "([BII)[B"⟩ : MethodName) (Jvm.Cond.code (⟨"java/util/Arrays", "copyOfRange", "([BII)[B"⟩ : MethodName) jdk_65_method_132_code 3 (some (.array .byte)) :: ws) (RM 2 1 3 34) #[(.ref d1), (.int 0), (.int 3)] (Qrm_cr_3_16 Z d1 kd xe0 xe1 xe2 h0 n0) := by
 refine MetFree.of_bodySF (plainFor_of_name pn_4) hisR ?_
 intro p e s m args below meth c s₁ Bd hml0 hP hK
 obtain ⟨rfl, hZ, hh⟩ := hP
 have hx := Bd.exec
 have hby := Bd.bytes
 have hml : c.maxLocals = 3 := hml0
 have hown : s.vm.findClass "java/util/Arrays" = some m.cls := findClass_of_methodNamed Bd.named
 have hnm := (name_of_methodNamed Bd.named Bd.method).1
 have X0 : Stand p l e (RM 2 1 3 34) s m #[(.ref d1), (.int 0), (.int 3)] below meth c s₁ [] 0 0 := Stand.of_body Bd
 have e0 : s₁.heap = h0 := by rw [← hh, Bd.state]; rfl
 have N0 := Fr.nil n0
 have pre0 : ∀ t, GO p e below s₁ (mkF m 0 (la9 d1 (0 : Int32) (3 : Int32)) []) t → GO p e below s₁ (entryFrame m #[(.ref d1), (.int 0), (.int 3)] 3) t := fun t k => castTop (ef_rm_cr_3_16 m d1 ((0 : Int32)) ((3 : Int32))) k
 have lt_Vd := ltA Vd.lt
 obtain ⟨cl439, Ar439, -, S439, M439, -, -⟩ := id Vd
 -- pc 13: Arrays.copyOfRangeByte by rm_cb_3_16
 obtain ⟨_, _, ⟨T440, L440, k440, n440⟩, -, X440, ⟨Lc440, hQ440, l440, y440, z440⟩, st440⟩ := Jvm.LawKit.callS X0 hx (y := (⟨"java/util/Arrays", "copyOfRangeByte", "([BII)[B"⟩ : MethodName)) hown (mvT hZ (wd hw 127 rfl)) (mvT hZ (wd hw 128 rfl)) (mvT hZ (wd hw 125 rfl)) (mvT hZ (wd hw 129 rfl)) (by decide) (backOf (W := 0) (rm_cb_3_16 l Z a0 hw [] d1 kd xe0 xe1 xe2 h0 n0 (by omega) Vd) hZ (wd hw 129 rfl) (wd hw 125 rfl) (by decide) (by decide)) (g := (mkF m 13 (la9 d1 (0 : Int32) (3 : Int32)) [(.int 3), (.int 0), (.ref d1)])) rfl (by rw [hml]; rfl) (argsL := [(.ref d1), (.int 0), (.int 3)]) (rest := []) (lenOf pd_13 rfl) rfl (wz rfl) (hb hby d22_13) (fun _ _ => ⟨rfl, e0, (by decide : 0 + 1 ≤ _), (by decide : 0 + 3 ≤ _)⟩)
 dsimp only [Pt.U, Pt.locs, Pt.cells, Pt.slots] at X440 l440 y440 z440 st440 hQ440
 subst l440 y440 z440
 obtain ⟨h440, e440⟩ : ∃ z, T440.heap = z := ⟨_, rfl⟩
 rw [e440] at hQ440
 obtain ⟨t_440, k_440, rfl, N440q, K440, p440_0, p440_1, r440_0⟩ := hQ440
 have N440 := Fr.app N0 N440q
 have sz440 : h0.size ≤ h440.size := K440.1
 have lt440_0 := ltA p440_0.lt
 have lt440_1 := ltA p440_1.lt
 obtain ⟨fs, hr, hrun, hended, hW, hsame⟩ := X440.leave (v := some (.ref t_440)) (fun h => by rw [Bd.returns] at h; cases h)
 refine ⟨_, _, pre0 _ ?_, hrun, hended, _, _, rfl, ?_, ⟨_, rfl⟩, hW, hsame.mono (by decide) (by decide)⟩
 ·show GO p e below s₁ (mkF m 0 (la9 d1 (0 : Int32) (3 : Int32)) []) _
  refine XS.iloadN X0.here hx rfl (hb hby d22_0) rfl ?_
  show GO p e below s₁ (mkF m 1 (la9 d1 (0 : Int32) (3 : Int32)) [(.int 0)]) _
  refine XS.ifNo X0.here hx rfl (hb hby d22_1) rfl ((if0 _ _).trans (teq (rfl : (0 : Int32) = (0 : Int32))).2) ?_
  show GO p e below s₁ (mkF m 4 (la9 d1 (0 : Int32) (3 : Int32)) []) _
  refine XS.iloadN X0.here hx rfl (hb hby d22_4) rfl ?_
  show GO p e below s₁ (mkF m 5 (la9 d1 (0 : Int32) (3 : Int32)) [(.int 3)]) _
  refine XS.aloadN X0.here hx rfl (hb hby d22_5) rfl rfl ?_
  show GO p e below s₁ (mkF m 6 (la9 d1 (0 : Int32) (3 : Int32)) [(.ref d1), (.int 3)]) _
  refine X0.arraylength hx (by rw [e0]; exact Ar439.1) (State.isArrayOf_alike hZ.alike Ar439.2.1) (g := (mkF m 6 (la9 d1 (0 : Int32) (3 : Int32)) [(.ref d1), (.int 3)])) rfl rfl (hb hby d22_6) _ ?_
  rw [len_of S439 M439]
  show GO p e below s₁ (mkF m 7 (la9 d1 (0 : Int32) (3 : Int32)) [(.int 16), (.int 3)]) _
  refine XS.icmpNo X0.here hx rfl (hb hby d22_7) rfl (feq ((by decide) : ¬ ((3 : Int32) = (16 : Int32)))).1 ?_
  show GO p e below s₁ (mkF m 10 (la9 d1 (0 : Int32) (3 : Int32)) []) _
  refine XS.aloadN X0.here hx rfl (hb hby d22_10) rfl rfl ?_
  show GO p e below s₁ (mkF m 11 (la9 d1 (0 : Int32) (3 : Int32)) [(.ref d1)]) _
  refine XS.iloadN X0.here hx rfl (hb hby d22_11) rfl ?_
  show GO p e below s₁ (mkF m 12 (la9 d1 (0 : Int32) (3 : Int32)) [(.int 0), (.ref d1)]) _
  refine XS.iloadN X0.here hx rfl (hb hby d22_12) rfl ?_
  show GO p e below s₁ (mkF m 13 (la9 d1 (0 : Int32) (3 : Int32)) [(.int 3), (.int 0), (.ref d1)]) _
  refine st440 _ ?_
  show GO p e below T440 (mkF m 16 (la9 d1 (0 : Int32) (3 : Int32)) [(.ref t_440)]) _
  exact retOut X440 hx Bd.returns rfl (Or.inr (Or.inr (Or.inr (Or.inr ⟨rfl, rfl, rfl⟩)))) (hb hby d22_16) hr
 ·show Qrm_cr_3_16 Z d1 kd xe0 xe1 xe2 h0 n0 _ T440.heap _
  rw [e440]
  exact ⟨t_440, k_440, rfl, N440, ((Keep.refl h0 []).trans K440 all0), p440_0, p440_1, r440_0⟩
def Qrm_si2_3_16 (Z : State) (x1 : Addr) (u1 : Value) (u2 : Value) (a1 : Addr) (d1 : Addr) (kd : ClassId) (xe0 : Int32) (xe1 : Int32) (xe2 : Int32) (z0 : Int32) (h0 : Heap) (n0 : Nat) (v : Option Value) (h : Heap) (L : List Loc) : Prop := ∃ t : Addr, ∃ k : ClassId, v = none ∧ Fr n0 L ∧ Keep h0 h [x1] ∧ Exa Z h x1 kS1 ∧ Fld Z h x1 kS1 "coder" "B" (.int 0) ∧ Fld Z h x1 kS1 "value" "[B" (.ref t) ∧ Exa Z h t "[B" ∧ Arv Z h t k .byte (3 : Int32) [(.int xe0), (.int xe1), (.int xe2)] (.int 0) ∧ h0.size ≤ t
theorem ef_rm_si2_3_16 (m : MethodId) (x0 : Addr) (x1 : Addr) : entryFrame m #[(.ref x0), (.ref x1), .null] 5 = mkF m 0 (la14 x0 x1) [] := by first | rfl | (simp [entryFrame, mkF, argsToLocals, Value.category]; done)
theorem rm_si2_3_16 (l : Launch) (Z : State) (a0 : Array Value) (hw : HW Z a0) (ws : List Jvm.Cond) (x1 : Addr) (u1 : Value) (u2 : Value) (a1 : Addr) (d1 : Addr) (kd : ClassId) (xe0 : Int32) (xe1 : Int32) (xe2 : Int32) (z0 : Int32) (h0 : Heap) (n0 : Nat) (Z0 : n0 ≤ h0.size) (O0 : Old Z n0 h0) (Es : Exa Z h0 x1 kS1) (Fv1 : Fld Z h0 x1 kS1 "value" "[B" u1) (Fc1 : Fld Z h0 x1 kS1 "coder" "B" u2) (Eb : Exa Z h0 a1 kS2) (Fbv : Fld Z h0 a1 kS0 "value" "[B" (.ref d1)) (Fbc : Fld Z h0 a1 kS0 "coder" "B" (.int 0)) (Fbn : Fld Z h0 a1 kS0 "count" "I" (.int 3)) (Vb : Arv Z h0 d1 kd .byte (16 : Int32) [(.int xe0), (.int xe1), (.int xe2), (.int 0), (.int 0), (.int 0), (.int 0), (.int 0), (.int 0), (.int 0), (.int 0), (.int 0), (.int 0), (.int 0), (.int 0), (.int 0)] (.int 0)) (SZc : Sta Z Z.heap kS1 "COMPACT_STRINGS" "Z" (.int z0)) (hz0 : ¬ z0 = 0) (gx : n0 ≤ x1) :
  OwnM l Z h0 (⟨kS1, "<init>", "(Ljava/lang/AbstractStringBuilder;Ljava/lang/Void;)V"⟩ : MethodName) (Jvm.Cond.code (⟨kS1, "<init>", "(Ljava/lang/AbstractStringBuilder;Ljava/lang/Void;)V"⟩ : MethodName) jdk_42_method_150_code 5 none :: ws) (RM 3 1 3 49) #[(.ref x1), (.ref a1), .null] (Qrm_si2_3_16 Z x1 u1 u2 a1 d1 kd xe0 xe1 xe2 z0 h0 n0) := by
 refine MetFree.of_bodySF (plainFor_of_name pn_0) hisR ?_
 intro p e s m args below meth c s₁ Bd hml0 hP hK
 obtain ⟨rfl, hZ, hh⟩ := hP
 have hx := Bd.exec
 have hby := Bd.bytes
 have hml : c.maxLocals = 5 := hml0
 have hown : s.vm.findClass kS1 = some m.cls := findClass_of_methodNamed Bd.named
 have hnm := (name_of_methodNamed Bd.named Bd.method).1
 have X0 : Stand p l e (RM 3 1 3 49) s m #[(.ref x1), (.ref a1), .null] below meth c s₁ [] 0 0 := Stand.of_body Bd
 have e0 : s₁.heap = h0 := by rw [← hh, Bd.state]; rfl
 have N0 := Fr.nil n0
 have pre0 : ∀ t, GO p e below s₁ (mkF m 0 (la14 x1 a1) []) t → GO p e below s₁ (entryFrame m #[(.ref x1), (.ref a1), .null] 5) t := fun t k => castTop (ef_rm_si2_3_16 m x1 a1) k
 have lt_Es := ltA Es.lt
 have lt_Fv1 := ltA Fv1.lt
 have lt_Fc1 := ltA Fc1.lt
 have lt_Eb := ltA Eb.lt
 have lt_Fbv := ltA Fbv.lt
 have lt_Fbc := ltA Fbc.lt
 have lt_Fbn := ltA Fbn.lt
 have lt_Vb := ltA Vb.lt
 obtain ⟨T441, X441, e441, st441⟩ := initO X0 hx hZ hown (wd hw 11 rfl) (wd hw 12 rfl) (wd hw 13 rfl) e0 (g := (mkF m 1 (la14 x1 a1) [(.ref x1)])) rfl (by rw [hml]; rfl) rfl (hb hby d17_1) (by decide) (W := 0) (wz rfl) (by decide)
 -- pc 5: AbstractStringBuilder.getValue by rm_gv
 obtain ⟨cq442, kq442, q442a, q442b, q442c⟩ := isOf hZ e441 Eb
 obtain ⟨_, _, ⟨T442, L442, k442, n442⟩, -, X442, ⟨Lc442, hQ442, l442, y442, z442⟩, st442⟩ := X441.virtualBack hx (y := (⟨kS0, "getValue", "()[B"⟩ : MethodName)) (z := (⟨kS0, "getValue", "()[B"⟩ : MethodName)) hown (mvT hZ (wd hw 105 rfl)) (mvT hZ (wd hw 106 rfl)) (notFace_of_selects (args := #[]) (mvT hZ (wd hw 108 rfl))) (mvT hZ (wd hw 108 rfl)) (mvT hZ (wd hw 107 rfl)) (by decide) (backOf (W := 0) (rm_gv l Z a0 hw [] a1 d1 h0 n0 (by omega) Fbv) hZ (wd hw 109 rfl) (wd hw 36 rfl) (by decide) (by decide)) q442a q442c (g := (mkF m 5 (la14 x1 a1) [(.ref a1)])) rfl (by rw [hml]; rfl) (Steps.refl _) (argsL := []) (rest := []) (lenOf pd_14 rfl) rfl (wz rfl) (hb hby d17_5) (fun _ _ => ⟨rfl, e441, (by decide : 0 + 0 ≤ _), (by decide : 0 + 0 ≤ _)⟩)
 dsimp only [Pt.U, Pt.locs, Pt.cells, Pt.slots] at X442 l442 y442 z442 st442 hQ442
 subst l442 y442 z442
 obtain ⟨rfl, N442q, e442⟩ := hQ442
 have N442 := Fr.app N0 N442q
 -- pc 10: StringBuilder.length by rm_bl
 obtain ⟨cq443, kq443, q443a, q443b, q443c⟩ := isOf hZ e442 Eb
 obtain ⟨_, _, ⟨T443, L443, k443, n443⟩, -, X443, ⟨Lc443, hQ443, l443, y443, z443⟩, st443⟩ := X442.virtualBack hx (y := (⟨kS0, "length", "()I"⟩ : MethodName)) (z := (⟨kS2, "length", "()I"⟩ : MethodName)) hown (mvT hZ (wd hw 110 rfl)) (mvT hZ (wd hw 111 rfl)) (own_nf (args := #[]) (mvT hZ (wd hw 70 rfl)) rfl) (mvT hZ (wd hw 113 rfl)) (mvT hZ (wd hw 114 rfl)) (by decide) (backOf (W := 0) (rm_bl l Z a0 hw [] a1 (3 : Int32) h0 n0 (by omega) Eb Fbn) hZ (wd hw 115 rfl) (wd hw 28 rfl) (by decide) (by decide)) q443a q443c (g := (mkF m 10 (la15 x1 a1 d1) [(.ref a1)])) rfl (by rw [hml]; rfl) (Steps.refl _) (argsL := []) (rest := []) (lenOf pd_8 rfl) rfl (wz rfl) (hb hby d17_10) (fun _ _ => ⟨rfl, e442, (by decide : 0 + 0 ≤ _), (by decide : 0 + 0 ≤ _)⟩)
 dsimp only [Pt.U, Pt.locs, Pt.cells, Pt.slots] at X443 l443 y443 z443 st443 hQ443
 subst l443 y443 z443
 obtain ⟨rfl, N443q, e443⟩ := hQ443
 have N443 := Fr.app N442 N443q
 -- pc 16: AbstractStringBuilder.isLatin1 by rm_il
 obtain ⟨cq444, kq444, q444a, q444b, q444c⟩ := isOf hZ e443 Eb
 obtain ⟨_, _, ⟨T444, L444, k444, n444⟩, -, X444, ⟨Lc444, hQ444, l444, y444, z444⟩, st444⟩ := X443.virtualBack hx (y := (⟨kS0, "isLatin1", "()Z"⟩ : MethodName)) (z := (⟨kS0, "isLatin1", "()Z"⟩ : MethodName)) hown (mvT hZ (wd hw 118 rfl)) (mvT hZ (wd hw 119 rfl)) (notFace_of_selects (args := #[]) (mvT hZ (wd hw 121 rfl))) (mvT hZ (wd hw 121 rfl)) (mvT hZ (wd hw 120 rfl)) (by decide) (backOf (W := 0) (rm_il l Z a0 hw [] a1 z0 h0 n0 (by omega) O0 Fbc (by first | assumption | decide | omega) (by first | assumption | decide | omega)) hZ (wd hw 122 rfl) (wd hw 36 rfl) (by decide) (by decide)) q444a q444c (g := (mkF m 16 (la16 x1 a1 d1 (3 : Int32)) [(.ref a1)])) rfl (by rw [hml]; rfl) (Steps.refl _) (argsL := []) (rest := []) (lenOf pd_15 rfl) rfl (wz rfl) (hb hby d17_16) (fun _ _ => ⟨rfl, e443, (by decide : 0 + 0 ≤ _), (by decide : 0 + 0 ≤ _)⟩)
 dsimp only [Pt.U, Pt.locs, Pt.cells, Pt.slots] at X444 l444 y444 z444 st444 hQ444
 subst l444 y444 z444
 obtain ⟨rfl, N444q, e444⟩ := hQ444
 have N444 := Fr.app N443 N444q
 obtain ⟨T445, h445, X445, e445, W445, st445⟩ := putFN X444 hx hZ hown (wd hw 21 rfl) Via.refl e444 Fc1 Es (Or.inr ⟨(wd hw 17 rfl), rfl, hnm⟩) (wd hw 2 rfl) (ty := .byte) (v' := (.int 0)) (by decide) rfl rfl (g := (mkF m 24 (la16 x1 a1 d1 (3 : Int32)) [(.int 0), (.ref x1)])) rfl rfl (hb hby d17_24)
 have N445 := Fr.snoc X445 N444 (by omega : n0 ≤ x1)
 have ne446 : x1 ≠ a1 := ne_exa Es Eb (by decide)
 have ne447 : x1 ≠ d1 := Exa.neArv Es Vb (wd hw 2 rfl)
 have sz445 : h0.size ≤ h445.size := Nat.le_of_eq W445.size.symm
 have f445 : Fld Z h445 x1 kS1 "coder" "B" (.int 0) := Fc1.same W445
 -- pc 32: Arrays.copyOfRange by rm_cr_3_16
 have f449 : Arv Z h445 d1 kd .byte (16 : Int32) [(.int xe0), (.int xe1), (.int xe2), (.int 0), (.int 0), (.int 0), (.int 0), (.int 0), (.int 0), (.int 0), (.int 0), (.int 0), (.int 0), (.int 0), (.int 0), (.int 0)] (.int 0) := (Vb.other W445 (Ne.symm ne447))
 obtain ⟨_, _, ⟨T448, L448, k448, n448⟩, -, X448, ⟨Lc448, hQ448, l448, y448, z448⟩, st448⟩ := Jvm.LawKit.callS X445 hx (y := (⟨"java/util/Arrays", "copyOfRange", "([BII)[B"⟩ : MethodName)) hown (mvT hZ (wd hw 123 rfl)) (mvT hZ (wd hw 124 rfl)) (mvT hZ (wd hw 125 rfl)) (mvT hZ (wd hw 126 rfl)) (by decide) (backOf (W := 1) (rm_cr_3_16 l Z a0 hw [] d1 kd xe0 xe1 xe2 h445 n0 (by omega) f449) hZ (wd hw 126 rfl) (wd hw 125 rfl) (by decide) (by decide)) (g := (mkF m 32 (la16 x1 a1 d1 (3 : Int32)) [(.int 3), (.int 0), (.ref d1), (.ref x1)])) rfl (by rw [hml]; rfl) (argsL := [(.ref d1), (.int 0), (.int 3)]) (rest := [(.ref x1)]) (lenOf pd_13 rfl) rfl (wz rfl) (hb hby d17_32) (fun _ _ => ⟨rfl, e445, (by decide : 0 + 1 ≤ _), (by decide : 0 + 3 ≤ _)⟩)
 dsimp only [Pt.U, Pt.locs, Pt.cells, Pt.slots] at X448 l448 y448 z448 st448 hQ448
 subst l448 y448 z448
 obtain ⟨h448, e448⟩ : ∃ z, T448.heap = z := ⟨_, rfl⟩
 rw [e448] at hQ448
 obtain ⟨t_448, k_448, rfl, N448q, K448, p448_0, p448_1, r448_0⟩ := hQ448
 have N448 := Fr.app N445 N448q
 have sz448 : h445.size ≤ h448.size := K448.1
 have lt448_0 := ltA p448_0.lt
 have lt448_1 := ltA p448_1.lt
 have f450 : Fld Z h448 x1 kS1 "value" "[B" u1 := ((Fv1.other W445 (Or.inr (slot_ne (Or.inr (wd hw 16 rfl)) (Or.inr (wd hw 17 rfl)) (by decide) (t := (.array .byte)) (t' := .byte) (by decide) (by decide)))).keep K448 nin0)
 have f451 : Exa Z h448 x1 kS1 := ((Es.wr W445).keep K448)
 obtain ⟨T452, h452, X452, e452, W452, st452⟩ := putF X448 hx hZ hown (host := "") (Or.inl (wd hw 20 rfl)) Via.refl e448 f450 f451 (Or.inr ⟨(wd hw 16 rfl), rfl, hnm⟩) (wd hw 2 rfl) (ty := (.array .byte)) (by decide) rfl rfl (g := (mkF m 35 (la16 x1 a1 d1 (3 : Int32)) [(.ref t_448), (.ref x1)])) rfl rfl (hb hby d17_35)
 have N452 := Fr.snoc X452 N448 (by omega : n0 ≤ x1)
 have ne453 : x1 ≠ t_448 := ne_exa f451 p448_0 (by decide)
 have sz452 : h448.size ≤ h452.size := Nat.le_of_eq W452.size.symm
 have f452 : Fld Z h452 x1 kS1 "value" "[B" (.ref t_448) := f450.same W452
 have f454 : Exa Z h452 x1 kS1 := (f451.wr W452)
 have f455 : Fld Z h452 x1 kS1 "coder" "B" (.int 0) := ((f445.keep K448 nin0).other W452 (Or.inr (slot_ne (Or.inr (wd hw 17 rfl)) (Or.inr (wd hw 16 rfl)) (by decide) (t := .byte) (t' := (.array .byte)) (by decide) (by decide))))
 have f456 : Exa Z h452 t_448 "[B" := (p448_0.wr W452)
 have f457 : Arv Z h452 t_448 k_448 .byte (3 : Int32) [(.int xe0), (.int xe1), (.int xe2)] (.int 0) := (p448_1.other W452 (Ne.symm ne453))
 obtain ⟨fs, hr, hrun, hended, hW, hsame⟩ := X452.leave (v := none) (fun _ => rfl)
 refine ⟨_, _, pre0 _ ?_, hrun, hended, _, _, rfl, ?_, ⟨_, rfl⟩, hW, hsame.mono (by decide) (by decide)⟩
 ·show GO p e below s₁ (mkF m 0 (la14 x1 a1) []) _
  refine XS.aloadN X0.here hx rfl (hb hby d17_0) rfl rfl ?_
  show GO p e below s₁ (mkF m 1 (la14 x1 a1) [(.ref x1)]) _
  refine st441 _ ?_
  show GO p e below T441 (mkF m 4 (la14 x1 a1) []) _
  refine XS.aloadN X441.here hx rfl (hb hby d17_4) rfl rfl ?_
  show GO p e below T441 (mkF m 5 (la14 x1 a1) [(.ref a1)]) _
  refine st442.trans ?_
  show GO p e below T442 (mkF m 8 (la14 x1 a1) [(.ref d1)]) _
  refine XS.astoreN X442.here hx rfl (hb hby d17_8) rfl rfl (l' := (la15 x1 a1 d1)) rfl ?_
  show GO p e below T442 (mkF m 9 (la15 x1 a1 d1) []) _
  refine XS.aloadN X442.here hx rfl (hb hby d17_9) rfl rfl ?_
  show GO p e below T442 (mkF m 10 (la15 x1 a1 d1) [(.ref a1)]) _
  refine st443.trans ?_
  show GO p e below T443 (mkF m 13 (la15 x1 a1 d1) [(.int 3)]) _
  refine XS.istore X443.here hx rfl (hb hby d17_13) rfl (l' := (la16 x1 a1 d1 (3 : Int32))) rfl ?_
  show GO p e below T443 (mkF m 15 (la16 x1 a1 d1 (3 : Int32)) []) _
  refine XS.aloadN X443.here hx rfl (hb hby d17_15) rfl rfl ?_
  show GO p e below T443 (mkF m 16 (la16 x1 a1 d1 (3 : Int32)) [(.ref a1)]) _
  refine st444.trans ?_
  show GO p e below T444 (mkF m 19 (la16 x1 a1 d1 (3 : Int32)) [(.int 1)]) _
  refine XS.ifNo X444.here hx rfl (hb hby d17_19) rfl ((if0 _ _).trans (feq ((by decide) : ¬ ((1 : Int32) = (0 : Int32)))).1) ?_
  show GO p e below T444 (mkF m 22 (la16 x1 a1 d1 (3 : Int32)) []) _
  refine XS.aloadN X444.here hx rfl (hb hby d17_22) rfl rfl ?_
  show GO p e below T444 (mkF m 23 (la16 x1 a1 d1 (3 : Int32)) [(.ref x1)]) _
  refine XS.iconst X444.here hx rfl (hb hby d17_23) ?_
  show GO p e below T444 (mkF m 24 (la16 x1 a1 d1 (3 : Int32)) [(.int 0), (.ref x1)]) _
  refine st445 _ ?_
  show GO p e below T445 (mkF m 27 (la16 x1 a1 d1 (3 : Int32)) []) _
  refine XS.aloadN X445.here hx rfl (hb hby d17_27) rfl rfl ?_
  show GO p e below T445 (mkF m 28 (la16 x1 a1 d1 (3 : Int32)) [(.ref x1)]) _
  refine XS.aloadN X445.here hx rfl (hb hby d17_28) rfl rfl ?_
  show GO p e below T445 (mkF m 29 (la16 x1 a1 d1 (3 : Int32)) [(.ref d1), (.ref x1)]) _
  refine XS.iconst X445.here hx rfl (hb hby d17_29) ?_
  show GO p e below T445 (mkF m 30 (la16 x1 a1 d1 (3 : Int32)) [(.int 0), (.ref d1), (.ref x1)]) _
  refine XS.iload X445.here hx rfl (hb hby d17_30) rfl ?_
  show GO p e below T445 (mkF m 32 (la16 x1 a1 d1 (3 : Int32)) [(.int 3), (.int 0), (.ref d1), (.ref x1)]) _
  refine st448 _ ?_
  show GO p e below T448 (mkF m 35 (la16 x1 a1 d1 (3 : Int32)) [(.ref t_448), (.ref x1)]) _
  refine st452 _ ?_
  show GO p e below T452 (mkF m 38 (la16 x1 a1 d1 (3 : Int32)) []) _
  refine XS.goto X452.here hx rfl (pc0 := 38) (pc' := 97) rfl (hb hby d17_38) (by decide) (by decide) ?_
  show GO p e below T452 (mkF m 97 (la16 x1 a1 d1 (3 : Int32)) []) _
  exact X452.returnOut hx Bd.returns (hb hby d17_97) hr
 ·show Qrm_si2_3_16 Z x1 u1 u2 a1 d1 kd xe0 xe1 xe2 z0 h0 n0 _ T452.heap _
  rw [e452]
  exact ⟨t_448, k_448, rfl, N452, ((((Keep.refl h0 [x1]).wr W445 (Or.inl (List.mem_of_getElem? (i := 0) rfl))).trans K448 all0).wr W452 (Or.inl (List.mem_of_getElem? (i := 0) rfl))), f454, f455, f452, f456, f457, (by omega)⟩
def Qrm_si1_3_16 (Z : State) (x1 : Addr) (u1 : Value) (u2 : Value) (a1 : Addr) (d1 : Addr) (kd : ClassId) (xe0 : Int32) (xe1 : Int32) (xe2 : Int32) (z0 : Int32) (h0 : Heap) (n0 : Nat) (v : Option Value) (h : Heap) (L : List Loc) : Prop := ∃ t : Addr, ∃ k : ClassId, v = none ∧ Fr n0 L ∧ Keep h0 h [x1] ∧ Exa Z h x1 kS1 ∧ Fld Z h x1 kS1 "coder" "B" (.int 0) ∧ Fld Z h x1 kS1 "value" "[B" (.ref t) ∧ Exa Z h t "[B" ∧ Arv Z h t k .byte (3 : Int32) [(.int xe0), (.int xe1), (.int xe2)] (.int 0) ∧ h0.size ≤ t
theorem ef_rm_si1_3_16 (m : MethodId) (x0 : Addr) (x1 : Addr) : entryFrame m #[(.ref x0), (.ref x1)] 2 = mkF m 0 #[.val (.ref x0), .val (.ref x1)] [] := by first | rfl | (simp [entryFrame, mkF, argsToLocals, Value.category]; done)
theorem rm_si1_3_16 (l : Launch) (Z : State) (a0 : Array Value) (hw : HW Z a0) (ws : List Jvm.Cond) (x1 : Addr) (u1 : Value) (u2 : Value) (a1 : Addr) (d1 : Addr) (kd : ClassId) (xe0 : Int32) (xe1 : Int32) (xe2 : Int32) (z0 : Int32) (h0 : Heap) (n0 : Nat) (Z0 : n0 ≤ h0.size) (O0 : Old Z n0 h0) (Es : Exa Z h0 x1 kS1) (Fv1 : Fld Z h0 x1 kS1 "value" "[B" u1) (Fc1 : Fld Z h0 x1 kS1 "coder" "B" u2) (Eb : Exa Z h0 a1 kS2) (Fbv : Fld Z h0 a1 kS0 "value" "[B" (.ref d1)) (Fbc : Fld Z h0 a1 kS0 "coder" "B" (.int 0)) (Fbn : Fld Z h0 a1 kS0 "count" "I" (.int 3)) (Vb : Arv Z h0 d1 kd .byte (16 : Int32) [(.int xe0), (.int xe1), (.int xe2), (.int 0), (.int 0), (.int 0), (.int 0), (.int 0), (.int 0), (.int 0), (.int 0), (.int 0), (.int 0), (.int 0), (.int 0), (.int 0)] (.int 0)) (SZc : Sta Z Z.heap kS1 "COMPACT_STRINGS" "Z" (.int z0)) (hz0 : ¬ z0 = 0) (gx : n0 ≤ x1) :
  OwnM l Z h0 (⟨kS1, "<init>", "(Ljava/lang/StringBuilder;)V"⟩ : MethodName) (Jvm.Cond.code (⟨kS1, "<init>", "(Ljava/lang/StringBuilder;)V"⟩ : MethodName) jdk_42_method_53_code 2 none :: ws) (RM 4 1 3 65) #[(.ref x1), (.ref a1)] (Qrm_si1_3_16 Z x1 u1 u2 a1 d1 kd xe0 xe1 xe2 z0 h0 n0) := by
 refine MetFree.of_bodySF (plainFor_of_name pn_0) hisR ?_
 intro p e s m args below meth c s₁ Bd hml0 hP hK
 obtain ⟨rfl, hZ, hh⟩ := hP
 have hx := Bd.exec
 have hby := Bd.bytes
 have hml : c.maxLocals = 2 := hml0
 have hown : s.vm.findClass kS1 = some m.cls := findClass_of_methodNamed Bd.named
 have hnm := (name_of_methodNamed Bd.named Bd.method).1
 have X0 : Stand p l e (RM 4 1 3 65) s m #[(.ref x1), (.ref a1)] below meth c s₁ [] 0 0 := Stand.of_body Bd
 have e0 : s₁.heap = h0 := by rw [← hh, Bd.state]; rfl
 have N0 := Fr.nil n0
 have pre0 : ∀ t, GO p e below s₁ (mkF m 0 #[.val (.ref x1), .val (.ref a1)] []) t → GO p e below s₁ (entryFrame m #[(.ref x1), (.ref a1)] 2) t := fun t k => castTop (ef_rm_si1_3_16 m x1 a1) k
 have lt_Es := ltA Es.lt
 have lt_Fv1 := ltA Fv1.lt
 have lt_Fc1 := ltA Fc1.lt
 have lt_Eb := ltA Eb.lt
 have lt_Fbv := ltA Fbv.lt
 have lt_Fbc := ltA Fbc.lt
 have lt_Fbn := ltA Fbn.lt
 have lt_Vb := ltA Vb.lt
 -- pc 3: String.<init> by rm_si2_3_16
 obtain ⟨_, _, ⟨T458, L458, k458, n458⟩, -, X458, ⟨Lc458, hQ458, l458, y458, z458⟩, st458⟩ := X0.specialBack hx (y := (⟨kS1, "<init>", "(Ljava/lang/AbstractStringBuilder;Ljava/lang/Void;)V"⟩ : MethodName)) rfl hown (mvT hZ (wd hw 102 rfl)) (mvT hZ (wd hw 103 rfl)) (mvT hZ (wd hw 104 rfl)) (by decide) (backOf (W := 0) (rm_si2_3_16 l Z a0 hw [] x1 u1 u2 a1 d1 kd xe0 xe1 xe2 z0 h0 n0 (by omega) O0 Es Fv1 Fc1 Eb Fbv Fbc Fbn Vb (by first | assumption | decide | omega) (by first | assumption | decide | omega) (by first | assumption | decide | omega)) hZ (wd hw 104 rfl) (wd hw 3 rfl) (by decide) (by decide)) (g := (mkF m 3 #[.val (.ref x1), .val (.ref a1)] [.null, (.ref a1), (.ref x1)])) rfl (by rw [hml]; rfl) (Steps.refl _) (a := x1) (argsL := [(.ref a1), .null]) (rest := []) (lenOf pd_16 rfl) rfl (wz rfl) (hb hby d16_3) (fun _ _ => ⟨rfl, e0, (by decide : 0 + 1 ≤ _), (by decide : 0 + 3 ≤ _)⟩)
 dsimp only [Pt.U, Pt.locs, Pt.cells, Pt.slots] at X458 l458 y458 z458 st458 hQ458
 subst l458 y458 z458
 obtain ⟨h458, e458⟩ : ∃ z, T458.heap = z := ⟨_, rfl⟩
 rw [e458] at hQ458
 obtain ⟨t_458, k_458, rfl, N458q, K458, p458_0, p458_1, p458_2, p458_3, p458_4, r458_0⟩ := hQ458
 have N458 := Fr.app N0 N458q
 have sz458 : h0.size ≤ h458.size := K458.1
 have lt458_0 := ltA p458_0.lt
 have lt458_3 := ltA p458_3.lt
 have lt458_4 := ltA p458_4.lt
 obtain ⟨fs, hr, hrun, hended, hW, hsame⟩ := X458.leave (v := none) (fun _ => rfl)
 refine ⟨_, _, pre0 _ ?_, hrun, hended, _, _, rfl, ?_, ⟨_, rfl⟩, hW, hsame.mono (by decide) (by decide)⟩
 ·show GO p e below s₁ (mkF m 0 #[.val (.ref x1), .val (.ref a1)] []) _
  refine XS.aloadN X0.here hx rfl (hb hby d16_0) rfl rfl ?_
  show GO p e below s₁ (mkF m 1 #[.val (.ref x1), .val (.ref a1)] [(.ref x1)]) _
  refine XS.aloadN X0.here hx rfl (hb hby d16_1) rfl rfl ?_
  show GO p e below s₁ (mkF m 2 #[.val (.ref x1), .val (.ref a1)] [(.ref a1), (.ref x1)]) _
  refine XS.aconstNull X0.here hx rfl (hb hby d16_2) ?_
  show GO p e below s₁ (mkF m 3 #[.val (.ref x1), .val (.ref a1)] [.null, (.ref a1), (.ref x1)]) _
  refine st458.trans ?_
  show GO p e below T458 (mkF m 6 #[.val (.ref x1), .val (.ref a1)] []) _
  exact X458.returnOut hx Bd.returns (hb hby d16_6) hr
 ·show Qrm_si1_3_16 Z x1 u1 u2 a1 d1 kd xe0 xe1 xe2 z0 h0 n0 _ T458.heap _
  rw [e458]
  exact ⟨t_458, k_458, rfl, N458, ((Keep.refl h0 [x1]).trans K458 (allS (P := fun x => x ∈ _ ∨ _) (Or.inl (List.mem_of_getElem? (i := 0) rfl)) all0)), p458_0, p458_1, p458_2, p458_3, p458_4, r458_0⟩
def Qrm_ts_3_16 (Z : State) (a1 : Addr) (d1 : Addr) (kd : ClassId) (xe0 : Int32) (xe1 : Int32) (xe2 : Int32) (z0 : Int32) (h0 : Heap) (n0 : Nat) (v : Option Value) (h : Heap) (L : List Loc) : Prop := ∃ x : Addr, ∃ t : Addr, ∃ k : ClassId, v = some (.ref x) ∧ Fr n0 L ∧ Keep h0 h [] ∧ Exa Z h x kS1 ∧ Fld Z h x kS1 "coder" "B" (.int 0) ∧ Fld Z h x kS1 "value" "[B" (.ref t) ∧ Exa Z h t "[B" ∧ Arv Z h t k .byte (3 : Int32) [(.int xe0), (.int xe1), (.int xe2)] (.int 0) ∧ h0.size ≤ x ∧ h0.size ≤ t
theorem ef_rm_ts_3_16 (m : MethodId) (x0 : Addr) : entryFrame m #[(.ref x0)] 1 = mkF m 0 #[.val (.ref x0)] [] := by first | rfl | (simp [entryFrame, mkF, argsToLocals, Value.category]; done)
theorem rm_ts_3_16 (l : Launch) (Z : State) (a0 : Array Value) (hw : HW Z a0) (ws : List Jvm.Cond) (a1 : Addr) (d1 : Addr) (kd : ClassId) (xe0 : Int32) (xe1 : Int32) (xe2 : Int32) (z0 : Int32) (h0 : Heap) (n0 : Nat) (Z0 : n0 ≤ h0.size) (O0 : Old Z n0 h0) (Eb : Exa Z h0 a1 kS2) (Fbv : Fld Z h0 a1 kS0 "value" "[B" (.ref d1)) (Fbc : Fld Z h0 a1 kS0 "coder" "B" (.int 0)) (Fbn : Fld Z h0 a1 kS0 "count" "I" (.int 3)) (Vb : Arv Z h0 d1 kd .byte (16 : Int32) [(.int xe0), (.int xe1), (.int xe2), (.int 0), (.int 0), (.int 0), (.int 0), (.int 0), (.int 0), (.int 0), (.int 0), (.int 0), (.int 0), (.int 0), (.int 0), (.int 0)] (.int 0)) (SZc : Sta Z Z.heap kS1 "COMPACT_STRINGS" "Z" (.int z0)) (hz0 : ¬ z0 = 0) :
  OwnM l Z h0 (⟨kS2, "toString", "()Ljava/lang/String;"⟩ : MethodName) (Jvm.Cond.code (⟨kS2, "toString", "()Ljava/lang/String;"⟩ : MethodName) jdk_67_method_42_code 1 (some (.object kS1)) :: ws) (RM 5 2 7 79) #[(.ref a1)] (Qrm_ts_3_16 Z a1 d1 kd xe0 xe1 xe2 z0 h0 n0) := by
 refine MetFree.of_bodySF (plainFor_of_name pn_3) hisR ?_
 intro p e s m args below meth c s₁ Bd hml0 hP hK
 obtain ⟨rfl, hZ, hh⟩ := hP
 have hx := Bd.exec
 have hby := Bd.bytes
 have hml : c.maxLocals = 1 := hml0
 have hown : s.vm.findClass kS2 = some m.cls := findClass_of_methodNamed Bd.named
 have hnm := (name_of_methodNamed Bd.named Bd.method).1
 have X0 : Stand p l e (RM 5 2 7 79) s m #[(.ref a1)] below meth c s₁ [] 0 0 := Stand.of_body Bd
 have e0 : s₁.heap = h0 := by rw [← hh, Bd.state]; rfl
 have N0 := Fr.nil n0
 have pre0 : ∀ t, GO p e below s₁ (mkF m 0 #[.val (.ref a1)] []) t → GO p e below s₁ (entryFrame m #[(.ref a1)] 1) t := fun t k => castTop (ef_rm_ts_3_16 m a1) k
 have lt_Eb := ltA Eb.lt
 have lt_Fbv := ltA Fbv.lt
 have lt_Fbc := ltA Fbc.lt
 have lt_Fbn := ltA Fbn.lt
 have lt_Vb := ltA Vb.lt
 obtain ⟨T459, h459, X459, e459, E459, A459, D459, U459, st459⟩ := newO X0 hx hZ hown (wd hw 98 rfl) (wd hw 2 rfl) (wd hw 3 rfl) e0 (g := (mkF m 0 #[.val (.ref a1)] [])) rfl (hb hby d15_0) (by decide) (by decide)
 obtain ⟨b459, g459⟩ : ∃ z, z = h0.size := ⟨_, rfl⟩
 rw [← g459] at A459 D459 U459 st459
 have sz459 : h0.size ≤ h459.size := E459.1
 have lt459 := ltA A459.lt
 have f460 : Fld Z h459 b459 kS1 "value" "[B" .null := D459 (Or.inr (wd hw 16 rfl)) (ty := (.array .byte)) (by decide)
 have f461 : Fld Z h459 b459 kS1 "coder" "B" (.int 0) := D459 (Or.inr (wd hw 17 rfl)) (ty := .byte) (by decide)
 -- pc 5: String.<init> by rm_si1_3_16
 have f463 : Old Z n0 h459 := (O0.ext E459)
 have f464 : Exa Z h459 a1 kS2 := (Eb.ext E459)
 have f465 : Fld Z h459 a1 kS0 "value" "[B" (.ref d1) := (Fbv.ext E459)
 have f466 : Fld Z h459 a1 kS0 "coder" "B" (.int 0) := (Fbc.ext E459)
 have f467 : Fld Z h459 a1 kS0 "count" "I" (.int 3) := (Fbn.ext E459)
 have f468 : Arv Z h459 d1 kd .byte (16 : Int32) [(.int xe0), (.int xe1), (.int xe2), (.int 0), (.int 0), (.int 0), (.int 0), (.int 0), (.int 0), (.int 0), (.int 0), (.int 0), (.int 0), (.int 0), (.int 0), (.int 0)] (.int 0) := (Vb.ext E459)
 obtain ⟨_, _, ⟨T462, L462, k462, n462⟩, -, X462, ⟨Lc462, hQ462, l462, y462, z462⟩, st462⟩ := X459.specialBack hx (y := (⟨kS1, "<init>", "(Ljava/lang/StringBuilder;)V"⟩ : MethodName)) rfl hown (mvT hZ (wd hw 99 rfl)) (mvT hZ (wd hw 100 rfl)) (mvT hZ (wd hw 101 rfl)) (by decide) (backOf (W := 1) (rm_si1_3_16 l Z a0 hw [] b459 .null (.int 0) a1 d1 kd xe0 xe1 xe2 z0 h459 n0 (by omega) f463 A459 f460 f461 f464 f465 f466 f467 f468 (by first | assumption | decide | omega) (by first | assumption | decide | omega) (by first | assumption | decide | omega)) hZ (wd hw 101 rfl) (wd hw 3 rfl) (by decide) (by decide)) (g := (mkF m 5 #[.val (.ref a1)] [(.ref a1), (.ref b459), (.ref b459)])) rfl (by rw [hml]; rfl) (Steps.refl _) (a := b459) (argsL := [(.ref a1)]) (rest := [(.ref b459)]) (lenOf pd_17 rfl) rfl (wz rfl) (hb hby d15_5) (fun _ _ => ⟨rfl, e459, (by decide : 1 + 1 ≤ _), (by decide : 4 + 3 ≤ _)⟩)
 dsimp only [Pt.U, Pt.locs, Pt.cells, Pt.slots] at X462 l462 y462 z462 st462 hQ462
 subst l462 y462 z462
 obtain ⟨h462, e462⟩ : ∃ z, T462.heap = z := ⟨_, rfl⟩
 rw [e462] at hQ462
 obtain ⟨t_462, k_462, rfl, N462q, K462, p462_0, p462_1, p462_2, p462_3, p462_4, r462_0⟩ := hQ462
 have N462 := Fr.app N0 N462q
 have sz462 : h459.size ≤ h462.size := K462.1
 have lt462_0 := ltA p462_0.lt
 have lt462_3 := ltA p462_3.lt
 have lt462_4 := ltA p462_4.lt
 obtain ⟨fs, hr, hrun, hended, hW, hsame⟩ := X462.leave (v := some (.ref b459)) (fun h => by rw [Bd.returns] at h; cases h)
 refine ⟨_, _, pre0 _ ?_, hrun, hended, _, _, rfl, ?_, ⟨_, rfl⟩, hW, hsame.mono (by decide) (by decide)⟩
 ·show GO p e below s₁ (mkF m 0 #[.val (.ref a1)] []) _
  refine st459 _ ?_
  show GO p e below T459 (mkF m 3 #[.val (.ref a1)] [(.ref b459)]) _
  refine XS.dup X459.here hx rfl (hb hby d15_3) rfl rfl ?_
  show GO p e below T459 (mkF m 4 #[.val (.ref a1)] [(.ref b459), (.ref b459)]) _
  refine XS.aloadN X459.here hx rfl (hb hby d15_4) rfl rfl ?_
  show GO p e below T459 (mkF m 5 #[.val (.ref a1)] [(.ref a1), (.ref b459), (.ref b459)]) _
  refine st462.trans ?_
  show GO p e below T462 (mkF m 8 #[.val (.ref a1)] [(.ref b459)]) _
  exact retOut X462 hx Bd.returns rfl (Or.inr (Or.inr (Or.inr (Or.inr ⟨rfl, rfl, rfl⟩)))) (hb hby d15_8) hr
 ·show Qrm_ts_3_16 Z a1 d1 kd xe0 xe1 xe2 z0 h0 n0 _ T462.heap _
  rw [e462]
  exact ⟨b459, t_462, k_462, rfl, N462, (((Keep.refl h0 []).ext E459).trans K462 (allS (P := fun x => x ∈ _ ∨ _) (Or.inr (by omega)) all0)), p462_0, p462_1, p462_2, p462_3, p462_4, (by omega), (by omega)⟩
def Qrm_line2 (Z : State) (q0 : Addr) (q1 : Addr) (q2 : Addr) (x1 : Addr) (t1 : Addr) (k1 : ClassId) (xs0 : Int32) (xs1 : Int32) (z0 : Int32) (h0 : Heap) (n0 : Nat) (v : Option Value) (h : Heap) (L : List Loc) : Prop := ∃ t : Addr, ∃ k : ClassId, v = some (.ref t) ∧ Fr n0 L ∧ Keep h0 h [] ∧ Arv Z h t k .byte (3 : Int32) [(.int xs0), (.int xs1), (.int 10)] (.int 0)
theorem ef_rm_line2 (m : MethodId) (x0 : Addr) : entryFrame m #[(.ref x0)] 1 = mkF m 0 #[.val (.ref x0)] [] := by first | rfl | (simp [entryFrame, mkF, argsToLocals, Value.category]; done)
theorem rm_line2 (l : Launch) (Z : State) (a0 : Array Value) (hw : HW Z a0) (ws : List Jvm.Cond) (q0 : Addr) (q1 : Addr) (q2 : Addr) (x1 : Addr) (t1 : Addr) (k1 : ClassId) (xs0 : Int32) (xs1 : Int32) (z0 : Int32) (h0 : Heap) (n0 : Nat) (Z0 : n0 ≤ h0.size) (O0 : Old Z n0 h0) (Esx1 : Exa Z h0 x1 kS1) (Fcx1 : Fld Z h0 x1 kS1 "coder" "B" (.int 0)) (Fvx1 : Fld Z h0 x1 kS1 "value" "[B" (.ref t1)) (Vsx1 : Arv Z h0 t1 k1 .byte (2 : Int32) [(.int xs0), (.int xs1)] (.int 0)) (SZc : Sta Z Z.heap kS1 "COMPACT_STRINGS" "Z" (.int z0)) (hz0 : ¬ z0 = 0) (HC : OwnC Z q0 q1 q2) (hg0 : ¬ xs0 < 0) (hg1 : ¬ xs1 < 0) :
  OwnW l Z h0 (⟨"com/example/holdtube/holdtube/Seal", "line", "(Ljava/lang/String;)[B"⟩ : MethodName) (Jvm.Cond.code (⟨"com/example/holdtube/holdtube/Seal", "line", "(Ljava/lang/String;)[B"⟩ : MethodName) prog_22_method_4_code 1 (some (.array .byte)) :: ws) (RM 6 7 38 91) #[(.ref x1)] [] (Qrm_line2 Z q0 q1 q2 x1 t1 k1 xs0 xs1 z0 h0 n0) := by
 refine MetFree.of_bodySF (plainFor_of_name pn_5) hisR ?_
 intro p e s m args below meth c s₁ Bd hml0 hP hK
 obtain ⟨rfl, hZ, hh, H0, sf⟩ := hP
 have hx := Bd.exec
 have hby := Bd.bytes
 have hml : c.maxLocals = 1 := hml0
 have hown : s.vm.findClass "com/example/holdtube/holdtube/Seal" = some m.cls := findClass_of_methodNamed Bd.named
 have hnm := (name_of_methodNamed Bd.named Bd.method).1
 have X0 : Stand p l e (RM 6 7 38 91) (s.setVm s.vm) m #[(.ref x1)] below meth c s₁ [] 0 0 := Stand.of_body Bd
 have hS0 : s.Since s.vm h0.size := (State.WarmedH.refl s).since _
 have C0 : CHr Z EL1 s.vm h0 s.vm h0 := CHr.refl H0
 have e0 : s₁.heap = h0 := by rw [← hh, Bd.state]; rfl
 have N0 := Fr.nil n0
 have pre0 : ∀ t, GO p e below s₁ (mkF m 0 #[.val (.ref x1)] []) t → GO p e below s₁ (entryFrame m #[(.ref x1)] 1) t := fun t k => castTop (ef_rm_line2 m x1) k
 have lt_Esx1 := ltA Esx1.lt
 have lt_Fcx1 := ltA Fcx1.lt
 have lt_Fvx1 := ltA Fvx1.lt
 have lt_Vsx1 := ltA Vsx1.lt
 obtain ⟨SZq0, SZqa, SZq1, SZq2, nq1, nq2⟩ := HC
 obtain ⟨T469, h469, X469, e469, E469, A469, D469, U469, st469⟩ := newO X0 hx hZ hown (wd hw 26 rfl) (wd hw 27 rfl) (wd hw 28 rfl) e0 (g := (mkF m 0 #[.val (.ref x1)] [])) rfl (hb hby d4_0) (by decide) (by decide)
 obtain ⟨b469, g469⟩ : ∃ z, z = h0.size := ⟨_, rfl⟩
 rw [← g469] at A469 D469 U469 st469
 have C470 : CHr Z EL1 s.vm h0 s.vm h469 := C0.trans (CHr.ext E469 C0.1)
 have sz469 : h0.size ≤ h469.size := E469.1
 have lt469 := ltA A469.lt
 have f471 : Fld Z h469 b469 kS0 "value" "[B" .null := D469 (Or.inl (wd hw 41 rfl)) (ty := (.array .byte)) (by decide)
 have f472 : Fld Z h469 b469 kS0 "coder" "B" (.int 0) := D469 (Or.inl (wd hw 43 rfl)) (ty := .byte) (by decide)
 have f473 : Fld Z h469 b469 kS0 "count" "I" (.int 0) := D469 (Or.inl (wd hw 66 rfl)) (ty := .int) (by decide)
 -- pc 4: StringBuilder.<init> by rm_bi
 have f475 : Old Z n0 h469 := (O0.ext E469)
 obtain ⟨_, _, ⟨T474, L474, k474, n474⟩, -, X474, ⟨Lc474, hQ474, l474, y474, z474⟩, st474⟩ := X469.specialBack hx (y := (⟨kS2, "<init>", "()V"⟩ : MethodName)) rfl hown (mvT hZ (wd hw 29 rfl)) (mvT hZ (wd hw 30 rfl)) (mvT hZ (wd hw 31 rfl)) (by decide) (backOf (W := 1) (rm_bi l Z a0 hw [] b469 .null (.int 0) z0 h469 n0 (by omega) f475 A469 f471 f472 f473 (by first | assumption | decide | omega) (by first | assumption | decide | omega) (by first | assumption | decide | omega)) hZ (wd hw 31 rfl) (wd hw 28 rfl) (by decide) (by decide)) (g := (mkF m 4 #[.val (.ref x1)] [(.ref b469), (.ref b469)])) rfl (by rw [hml]; rfl) (Steps.refl _) (a := b469) (argsL := []) (rest := [(.ref b469)]) (lenOf pd_18 rfl) rfl (wz rfl) (hb hby d4_4) (fun _ _ => ⟨rfl, e469, (by decide : 1 + 1 ≤ _), (by decide : 4 + 16 ≤ _)⟩)
 dsimp only [Pt.U, Pt.locs, Pt.cells, Pt.slots] at X474 l474 y474 z474 st474 hQ474
 subst l474 y474 z474
 obtain ⟨h474, e474⟩ : ∃ z, T474.heap = z := ⟨_, rfl⟩
 rw [e474] at hQ474
 obtain ⟨d_474, k_474, rfl, N474q, K474, p474_0, p474_1, p474_2, p474_3, p474_4, r474_0⟩ := hQ474
 have N474 := Fr.app N0 N474q
 have f476 : Exa Z h469 x1 kS1 := (Esx1.ext E469)
 have ne477 : b469 ≠ x1 := ne_exa A469 f476 (by decide)
 have f478 : Arv Z h469 t1 k1 .byte (2 : Int32) [(.int xs0), (.int xs1)] (.int 0) := (Vsx1.ext E469)
 have ne479 : b469 ≠ t1 := Exa.neArv A469 f478 (wd hw 27 rfl)
 have C480 : CHr Z EL1 s.vm h0 s.vm h474 := C470.trans (CHr.keep K474 (sfS (Safe.exa hZ.alike A469 (by decide) (by decide)) sf0) C470.1)
 have sz474 : h469.size ≤ h474.size := K474.1
 have lt474_0 := ltA p474_0.lt
 have lt474_4 := ltA p474_4.lt
 have B474_d_474 : Safe Z EL1 s.vm h474 d_474 := Safe.keep K474 (sfS (Safe.exa hZ.alike A469 (by decide) (by decide)) sf0) C470.1 (Safe.new (by omega))
 -- pc 8: StringBuilder.append by rm_sa_2_0_16
 have f482 : Old Z n0 h474 := (f475.keep K474 (allS (by omega) all0))
 have f483 : Exa Z h474 x1 kS1 := (f476.keep K474)
 have f484 : Fld Z h474 x1 kS1 "coder" "B" (.int 0) := ((Fcx1.ext E469).keep K474 (ninS (Ne.symm ne477) nin0))
 have f485 : Fld Z h474 x1 kS1 "value" "[B" (.ref t1) := ((Fvx1.ext E469).keep K474 (ninS (Ne.symm ne477) nin0))
 have f486 : Arv Z h474 t1 k1 .byte (2 : Int32) [(.int xs0), (.int xs1)] (.int 0) := (f478.keep K474 (ninS (Ne.symm ne479) nin0))
 obtain ⟨cq481, kq481, q481a, q481b, q481c⟩ := isOf hZ e474 p474_0
 obtain ⟨_, _, ⟨T481, L481, k481, n481⟩, -, X481, ⟨Lc481, hQ481, l481, y481, z481⟩, st481⟩ := X474.virtualBack hx (y := (⟨kS2, "append", "(Ljava/lang/String;)Ljava/lang/StringBuilder;"⟩ : MethodName)) (z := (⟨kS2, "append", "(Ljava/lang/String;)Ljava/lang/StringBuilder;"⟩ : MethodName)) hown (mvT hZ (wd hw 44 rfl)) (mvT hZ (wd hw 45 rfl)) (notFace_of_selects (args := #[]) (mvT hZ (wd hw 47 rfl))) (mvT hZ (wd hw 47 rfl)) (mvT hZ (wd hw 46 rfl)) (by decide) (backOf (W := 0) (rm_sa_2_0_16 l Z a0 hw [] x1 t1 k1 xs0 xs1 b469 d_474 k_474 z0 h474 n0 (by omega) f482 f483 f484 f485 f486 p474_0 p474_1 p474_2 p474_3 p474_4 (by first | assumption | decide | omega) (by first | assumption | decide | omega) (by first | assumption | decide | omega) (by first | assumption | decide | omega) (neN (by omega))) hZ (wd hw 48 rfl) (wd hw 28 rfl) (by decide) (by decide)) q481a q481c (g := (mkF m 8 #[.val (.ref x1)] [(.ref x1), (.ref b469)])) rfl (by rw [hml]; rfl) (Steps.refl _) (argsL := [(.ref x1)]) (rest := []) (lenOf pd_19 rfl) rfl (wz rfl) (hb hby d4_8) (fun _ _ => ⟨rfl, e474, (by decide : 2 + 0 ≤ _), (by decide : 20 + 0 ≤ _)⟩)
 dsimp only [Pt.U, Pt.locs, Pt.cells, Pt.slots] at X481 l481 y481 z481 st481 hQ481
 subst l481 y481 z481
 obtain ⟨h481, e481⟩ : ∃ z, T481.heap = z := ⟨_, rfl⟩
 rw [e481] at hQ481
 obtain ⟨rfl, N481q, K481, p481_0, p481_1, p481_2, p481_3, p481_4⟩ := hQ481
 have N481 := Fr.app N474 N481q
 have ne487 : d_474 ≠ x1 := Ne.symm (Exa.neArv f483 p474_4 (wd hw 2 rfl))
 have C488 : CHr Z EL1 s.vm h0 s.vm h481 := C480.trans (CHr.keep K481 (sfS (Safe.exa hZ.alike p474_0 (by decide) (by decide)) (sfS B474_d_474 sf0)) C480.1)
 have sz481 : h474.size ≤ h481.size := K481.1
 have lt481_0 := ltA p481_0.lt
 have lt481_4 := ltA p481_4.lt
 obtain ⟨sa489, T489, h489, kk489, sb489, sk489, X489, e489, E489, hS489, hk489, hZ489, hown489, A489, Fc489, Fv489, V489, lt489, ltb489, C489w, Lt489, ne489, st489⟩ := ldcCH X481 hx hZ hown (wd hw 92 rfl) (own_wS hw) e481 hS0 (by omega) (own_EW hw) (by decide) C488.1 (vs := [(.int 10)]) (z := (1 : Int32)) (by decide +kernel) (by decide) (by decide) (g := (mkF m 11 #[.val (.ref x1)] [(.ref b469)])) rfl (hb hby d4_11) (n := 4) (by decide) (by decide) (by decide) (by decide)
 have C490 : CHr Z EL1 s.vm h0 T489.vm h489 := C488.trans (C489w)
 have sz489 : h481.size ≤ h489.size := E489.1
 have lv489 := ltA lt489
 have lw489 := ltA ltb489
 have f491 : Safe Z EL1 T489.vm h489 d_474 := (CHr.safe C489w (ltN (by omega)) (Safe.keep K481 (sfS (Safe.exa hZ.alike p474_0 (by decide) (by decide)) (sfS B474_d_474 sf0)) C480.1 B474_d_474))
 have nx489_d_474 := ne489 d_474 f491
 have f492 : Exa Z h489 b469 kS2 := (p481_0.ext E489)
 have nx489_b469 := ne489 b469 (Safe.exa hZ489.alike f492 (by decide) (by decide))
 -- pc 13: StringBuilder.append by rm_sa_1_2_16
 have f494 : Old Z n0 h489 := ((f482.keep K481 (allS (by omega) (allS (by omega) all0))).ext E489)
 have f495 : Fld Z h489 b469 kS0 "value" "[B" (.ref d_474) := (p481_1.ext E489)
 have f496 : Fld Z h489 b469 kS0 "coder" "B" (.int 0) := (p481_2.ext E489)
 have f497 : Fld Z h489 b469 kS0 "count" "I" (.int 2) := (p481_3.ext E489)
 have f498 : Arv Z h489 d_474 k_474 .byte (16 : Int32) [(.int xs0), (.int xs1), (.int 0), (.int 0), (.int 0), (.int 0), (.int 0), (.int 0), (.int 0), (.int 0), (.int 0), (.int 0), (.int 0), (.int 0), (.int 0), (.int 0)] (.int 0) := (p481_4.ext E489)
 obtain ⟨cq493, kq493, q493a, q493b, q493c⟩ := isOf hZ489 e489 f492
 obtain ⟨_, _, ⟨T493, L493, k493, n493⟩, -, X493, ⟨Lc493, hQ493, l493, y493, z493⟩, st493⟩ := X489.virtualBack hx (y := (⟨kS2, "append", "(Ljava/lang/String;)Ljava/lang/StringBuilder;"⟩ : MethodName)) (z := (⟨kS2, "append", "(Ljava/lang/String;)Ljava/lang/StringBuilder;"⟩ : MethodName)) hown489 (mvT hZ489 (wd hw 44 rfl)) (mvT hZ489 (wd hw 45 rfl)) (notFace_of_selects (args := #[]) (mvT hZ489 (wd hw 47 rfl))) (mvT hZ489 (wd hw 47 rfl)) (mvT hZ489 (wd hw 46 rfl)) (by decide) (backOf (W := 0) (rm_sa_1_2_16 l Z a0 hw [] sa489 sb489 sk489 (10 : Int32) b469 d_474 k_474 xs0 xs1 z0 h489 n0 (by omega) f494 A489 Fc489 Fv489 V489 f492 f495 f496 f497 f498 (by first | assumption | decide | omega) (by first | assumption | decide | omega) (by first | assumption | decide | omega) (by first | assumption | decide | omega) (Ne.symm nx489_d_474.2)) hZ489 (wd hw 48 rfl) (wd hw 28 rfl) (by decide) (by decide)) q493a q493c (g := (mkF m 13 #[.val (.ref x1)] [(.ref sa489), (.ref b469)])) rfl (by rw [hml]; rfl) (Steps.refl _) (argsL := [(.ref sa489)]) (rest := []) (lenOf pd_19 rfl) rfl (wz rfl) (hb hby d4_13) (fun _ _ => ⟨rfl, e489, (by decide : 4 + 0 ≤ _), (by decide : 28 + 0 ≤ _)⟩)
 dsimp only [Pt.U, Pt.locs, Pt.cells, Pt.slots] at X493 l493 y493 z493 st493 hQ493
 subst l493 y493 z493
 obtain ⟨h493, e493⟩ : ∃ z, T493.heap = z := ⟨_, rfl⟩
 rw [e493] at hQ493
 obtain ⟨rfl, N493q, K493, p493_0, p493_1, p493_2, p493_3, p493_4⟩ := hQ493
 have N493 := Fr.app N481 N493q
 have C499 : CHr Z EL1 s.vm h0 T489.vm h493 := C490.trans (CHr.keep K493 (sfS (Safe.exa hZ489.alike f492 (by decide) (by decide)) (sfS f491 sf0)) C490.1)
 have sz493 : h489.size ≤ h493.size := K493.1
 have lt493_0 := ltA p493_0.lt
 have lt493_4 := ltA p493_4.lt
 -- pc 16: StringBuilder.toString by rm_ts_3_16
 have f501 : Old Z n0 h493 := (f494.keep K493 (allS (by omega) (allS (by omega) all0)))
 obtain ⟨cq500, kq500, q500a, q500b, q500c⟩ := isOf hZ489 e493 p493_0
 obtain ⟨_, _, ⟨T500, L500, k500, n500⟩, -, X500, ⟨Lc500, hQ500, l500, y500, z500⟩, st500⟩ := X493.virtualBack hx (y := (⟨kS2, "toString", "()Ljava/lang/String;"⟩ : MethodName)) (z := (⟨kS2, "toString", "()Ljava/lang/String;"⟩ : MethodName)) hown489 (mvT hZ489 (wd hw 93 rfl)) (mvT hZ489 (wd hw 94 rfl)) (notFace_of_selects (args := #[]) (mvT hZ489 (wd hw 96 rfl))) (mvT hZ489 (wd hw 96 rfl)) (mvT hZ489 (wd hw 95 rfl)) (by decide) (backOf (W := 0) (rm_ts_3_16 l Z a0 hw [] b469 d_474 k_474 xs0 xs1 (10 : Int32) z0 h493 n0 (by omega) f501 p493_0 p493_1 p493_2 p493_3 p493_4 (by first | assumption | decide | omega) (by first | assumption | decide | omega)) hZ489 (wd hw 97 rfl) (wd hw 28 rfl) (by decide) (by decide)) q500a q500c (g := (mkF m 16 #[.val (.ref x1)] [(.ref b469)])) rfl (by rw [hml]; rfl) (Steps.refl _) (argsL := []) (rest := []) (lenOf pd_20 rfl) rfl (wz rfl) (hb hby d4_16) (fun _ _ => ⟨rfl, e493, (by decide : 4 + 2 ≤ _), (by decide : 28 + 7 ≤ _)⟩)
 dsimp only [Pt.U, Pt.locs, Pt.cells, Pt.slots] at X500 l500 y500 z500 st500 hQ500
 subst l500 y500 z500
 obtain ⟨h500, e500⟩ : ∃ z, T500.heap = z := ⟨_, rfl⟩
 rw [e500] at hQ500
 obtain ⟨x_500, t_500, k_500, rfl, N500q, K500, p500_0, p500_1, p500_2, p500_3, p500_4, r500_0, r500_1⟩ := hQ500
 have N500 := Fr.app N493 N500q
 have C502 : CHr Z EL1 s.vm h0 T489.vm h500 := C499.trans (CHr.keep K500 sf0 C499.1)
 have sz500 : h493.size ≤ h500.size := K500.1
 have lt500_0 := ltA p500_0.lt
 have lt500_3 := ltA p500_3.lt
 have lt500_4 := ltA p500_4.lt
 have B500_x_500 : Safe Z EL1 T489.vm h500 x_500 := Safe.keep K500 sf0 C499.1 (Safe.new (by omega))
 have B500_t_500 : Safe Z EL1 T489.vm h500 t_500 := Safe.keep K500 sf0 C499.1 (Safe.new (by omega))
 have f503 : Old Z n0 h500 := (f501.keep K500 all0)
 have S504 : Sta Z h500 "java/nio/charset/StandardCharsets" "US_ASCII" "Ljava/nio/charset/Charset;" (.ref q0) := SZq0.ext f503.2
 obtain ⟨T505, X505, e505, st505⟩ := getS2 X500 hx hZ489 hown489 (host := "") (Or.inl (wd hw 138 rfl)) Via.refl e500 S504 (g := (mkF m 19 #[.val (.ref x1)] [(.ref x_500)])) rfl (hb hby d4_19)
 -- pc 22: String.getBytes by rm_gbc3
 obtain ⟨cq506, kq506, q506a, q506b, q506c⟩ := isOf hZ489 e505 p500_0
 obtain ⟨_, _, ⟨T506, L506, k506, n506⟩, -, X506, ⟨Lc506, hQ506, l506, y506, z506⟩, st506⟩ := X505.virtualBack hx (y := (⟨kS1, "getBytes", "(Ljava/nio/charset/Charset;)[B"⟩ : MethodName)) (z := (⟨kS1, "getBytes", "(Ljava/nio/charset/Charset;)[B"⟩ : MethodName)) hown489 (mvT hZ489 (wd hw 140 rfl)) (mvT hZ489 (wd hw 141 rfl)) (notFace_of_selects (args := #[]) (mvT hZ489 (wd hw 143 rfl))) (mvT hZ489 (wd hw 143 rfl)) (mvT hZ489 (wd hw 142 rfl)) (by decide) (backOf (W := 0) (rm_gbc3 l Z a0 hw [] q0 q1 q2 x_500 t_500 k_500 xs0 xs1 (10 : Int32) z0 h500 n0 (by omega) f503 p500_0 p500_1 p500_2 p500_4 p500_3 (by first | assumption | decide | omega) (by first | assumption | decide | omega) ⟨SZq0, SZqa, SZq1, SZq2, nq1, nq2⟩ (by first | assumption | decide | omega) (by first | assumption | decide | omega) (by first | assumption | decide | omega)) hZ489 (wd hw 144 rfl) (wd hw 3 rfl) (by decide) (by decide)) q506a q506c (g := (mkF m 22 #[.val (.ref x1)] [(.ref q0), (.ref x_500)])) rfl (by rw [hml]; rfl) (Steps.refl _) (argsL := [(.ref q0)]) (rest := []) (lenOf pd_21 rfl) rfl (wz rfl) (hb hby d4_22) (fun _ _ => ⟨rfl, e505, (by decide : 6 + 1 ≤ _), (by decide : 35 + 3 ≤ _)⟩)
 dsimp only [Pt.U, Pt.locs, Pt.cells, Pt.slots] at X506 l506 y506 z506 st506 hQ506
 subst l506 y506 z506
 obtain ⟨h506, e506⟩ : ∃ z, T506.heap = z := ⟨_, rfl⟩
 rw [e506] at hQ506
 obtain ⟨t_506, k_506, rfl, N506q, K506, p506_0⟩ := hQ506
 have N506 := Fr.app N500 N506q
 have C507 : CHr Z EL1 s.vm h0 T489.vm h506 := C502.trans (CHr.keep K506 sf0 C502.1)
 have sz506 : h500.size ≤ h506.size := K506.1
 have lt506_0 := ltA p506_0.lt
 obtain ⟨fs, hr, hrun, hended, hE⟩ := X506.leaveW hS489 (by rw [e506]; omega) (v := some (.ref t_506)) (fun h => by rw [Bd.returns] at h; cases h)
 have CE := C507.trans (CHv.at X506 hZ489 (own_EW hw) C507.1)
 refine ⟨_, _, pre0 _ ?_, hrun, hended, _, _, rfl, ?_, ?_, ⟨hE.1, hE.2.1, hE.2.2.1, hE.2.2.2.mono (by decide) (by decide)⟩⟩
 ·show GO p e below s₁ (mkF m 0 #[.val (.ref x1)] []) _
  refine st469 _ ?_
  show GO p e below T469 (mkF m 3 #[.val (.ref x1)] [(.ref b469)]) _
  refine XS.dup X469.here hx rfl (hb hby d4_3) rfl rfl ?_
  show GO p e below T469 (mkF m 4 #[.val (.ref x1)] [(.ref b469), (.ref b469)]) _
  refine st474.trans ?_
  show GO p e below T474 (mkF m 7 #[.val (.ref x1)] [(.ref b469)]) _
  refine XS.aloadN X474.here hx rfl (hb hby d4_7) rfl rfl ?_
  show GO p e below T474 (mkF m 8 #[.val (.ref x1)] [(.ref x1), (.ref b469)]) _
  refine st481.trans ?_
  show GO p e below T481 (mkF m 11 #[.val (.ref x1)] [(.ref b469)]) _
  refine st489 _ ?_
  show GO p e below T489 (mkF m 13 #[.val (.ref x1)] [(.ref sa489), (.ref b469)]) _
  refine st493.trans ?_
  show GO p e below T493 (mkF m 16 #[.val (.ref x1)] [(.ref b469)]) _
  refine st500.trans ?_
  show GO p e below T500 (mkF m 19 #[.val (.ref x1)] [(.ref x_500)]) _
  refine st505 _ ?_
  show GO p e below T505 (mkF m 22 #[.val (.ref x1)] [(.ref q0), (.ref x_500)]) _
  refine st506.trans ?_
  show GO p e below T506 (mkF m 25 #[.val (.ref x1)] [(.ref t_506)]) _
  exact retOut X506 hx Bd.returns rfl (Or.inr (Or.inr (Or.inr (Or.inr ⟨rfl, rfl, rfl⟩)))) (hb hby d4_25) hr
 ·show Qrm_line2 Z q0 q1 q2 x1 t1 k1 xs0 xs1 z0 h0 n0 _ T506.heap _
  rw [e506]
  exact ⟨t_506, k_506, rfl, N506, ((((((((Keep.refl h0 []).ext E469).trans K474 (allS (P := fun x => x ∈ _ ∨ _) (Or.inr (by omega)) all0)).trans K481 (allS (P := fun x => x ∈ _ ∨ _) (Or.inr (by omega)) (allS (P := fun x => x ∈ _ ∨ _) (Or.inr (by omega)) all0))).ext E489).trans K493 (allS (P := fun x => x ∈ _ ∨ _) (Or.inr (by omega)) (allS (P := fun x => x ∈ _ ∨ _) (Or.inr (by omega)) all0))).trans K500 all0).trans K506 all0), p506_0⟩
 ·show CHr Z EL1 s.vm s.heap T506.vm T506.heap
  rw [hh, e506]
  exact CE
def Qrm_cp4 (Z : State) (t1 : Addr) (k1 : ClassId) (xs0 : Int32) (xs1 : Int32) (xs2 : Int32) (xs3 : Int32) (h0 : Heap) (n0 : Nat) (v : Option Value) (h : Heap) (L : List Loc) : Prop := v = some (.int 4) ∧ Fr n0 L ∧ h = h0
theorem ef_rm_cp4 (m : MethodId) (x0 : Addr) (x1 : Int32) (x2 : Int32) : entryFrame m #[(.ref x0), (.int x1), (.int x2)] 5 = mkF m 0 (la1 x0 x1 x2) [] := by first | rfl | (simp [entryFrame, mkF, argsToLocals, Value.category]; done)
theorem rm_cp4 (l : Launch) (Z : State) (a0 : Array Value) (hw : HW Z a0) (ws : List Jvm.Cond) (t1 : Addr) (k1 : ClassId) (xs0 : Int32) (xs1 : Int32) (xs2 : Int32) (xs3 : Int32) (h0 : Heap) (n0 : Nat) (Z0 : n0 ≤ h0.size) (V1 : Arv Z h0 t1 k1 .byte (4 : Int32) [(.int xs0), (.int xs1), (.int xs2), (.int xs3)] (.int 0)) (hg0 : ¬ xs0 < 0) (hg1 : ¬ xs1 < 0) (hg2 : ¬ xs2 < 0) (hg3 : ¬ xs3 < 0) :
  OwnM l Z h0 (⟨"java/lang/StringCoding", "countPositives", "([BII)I"⟩ : MethodName) (Jvm.Cond.code (⟨"java/lang/StringCoding", "countPositives", "([BII)I"⟩ : MethodName) jdk_123_method_3_code 5 (some .int) :: ws) (RM 0 0 0 0) #[(.ref t1), (.int 0), (.int 4)] (Qrm_cp4 Z t1 k1 xs0 xs1 xs2 xs3 h0 n0) := by
 refine MetFree.of_bodySF (plainFor_of_name pn_1) hisR ?_
 intro p e s m args below meth c s₁ Bd hml0 hP hK
 obtain ⟨rfl, hZ, hh⟩ := hP
 have hx := Bd.exec
 have hby := Bd.bytes
 have hml : c.maxLocals = 5 := hml0
 have hown : s.vm.findClass "java/lang/StringCoding" = some m.cls := findClass_of_methodNamed Bd.named
 have hnm := (name_of_methodNamed Bd.named Bd.method).1
 have X0 : Stand p l e (RM 0 0 0 0) s m #[(.ref t1), (.int 0), (.int 4)] below meth c s₁ [] 0 0 := Stand.of_body Bd
 have e0 : s₁.heap = h0 := by rw [← hh, Bd.state]; rfl
 have N0 := Fr.nil n0
 have pre0 : ∀ t, GO p e below s₁ (mkF m 0 (la1 t1 (0 : Int32) (4 : Int32)) []) t → GO p e below s₁ (entryFrame m #[(.ref t1), (.int 0), (.int 4)] 5) t := fun t k => castTop (ef_rm_cp4 m t1 ((0 : Int32)) ((4 : Int32))) k
 have lt_V1 := ltA V1.lt
 obtain ⟨cl508, Ar508, q508, S508, M508, H508, G508⟩ := id V1
 have hin508 : ¬ ((0 : Int32) < 0 ∨ cl508.slots.size ≤ ((0 : Int32)).toNatClampNeg) := inb_of S508 ⟨by decide, by decide⟩
 have hat508 : cl508.slots[((0 : Int32)).toNatClampNeg]? = some (.int xs0) := Has.at H508 hin508 rfl
 obtain ⟨cl509, Ar509, q509, S509, M509, H509, G509⟩ := id V1
 have hin509 : ¬ ((1 : Int32) < 0 ∨ cl509.slots.size ≤ ((1 : Int32)).toNatClampNeg) := inb_of S509 ⟨by decide, by decide⟩
 have hat509 : cl509.slots[((1 : Int32)).toNatClampNeg]? = some (.int xs1) := Has.at H509 hin509 rfl
 obtain ⟨cl510, Ar510, q510, S510, M510, H510, G510⟩ := id V1
 have hin510 : ¬ ((2 : Int32) < 0 ∨ cl510.slots.size ≤ ((2 : Int32)).toNatClampNeg) := inb_of S510 ⟨by decide, by decide⟩
 have hat510 : cl510.slots[((2 : Int32)).toNatClampNeg]? = some (.int xs2) := Has.at H510 hin510 rfl
 obtain ⟨cl511, Ar511, q511, S511, M511, H511, G511⟩ := id V1
 have hin511 : ¬ ((3 : Int32) < 0 ∨ cl511.slots.size ≤ ((3 : Int32)).toNatClampNeg) := inb_of S511 ⟨by decide, by decide⟩
 have hat511 : cl511.slots[((3 : Int32)).toNatClampNeg]? = some (.int xs3) := Has.at H511 hin511 rfl
 obtain ⟨fs, hr, hrun, hended, hW, hsame⟩ := X0.leave (v := some (.int 4)) (fun h => by rw [Bd.returns] at h; cases h)
 refine ⟨_, _, pre0 _ ?_, hrun, hended, _, _, rfl, ?_, ⟨_, rfl⟩, hW, hsame.mono (by decide) (by decide)⟩
 ·show GO p e below s₁ (mkF m 0 (la1 t1 (0 : Int32) (4 : Int32)) []) _
  refine XS.iloadN X0.here hx rfl (hb hby d29_0) rfl ?_
  show GO p e below s₁ (mkF m 1 (la1 t1 (0 : Int32) (4 : Int32)) [(.int 0)]) _
  refine XS.iloadN X0.here hx rfl (hb hby d29_1) rfl ?_
  show GO p e below s₁ (mkF m 2 (la1 t1 (0 : Int32) (4 : Int32)) [(.int 4), (.int 0)]) _
  refine XS.iadd X0.here hx rfl (hb hby d29_2) rfl ?_
  rw [show ((0 : Int32) + (4 : Int32)) = (4 : Int32) from by decide]
  show GO p e below s₁ (mkF m 3 (la1 t1 (0 : Int32) (4 : Int32)) [(.int 4)]) _
  refine XS.istoreN X0.here hx rfl (hb hby d29_3) rfl (l' := (la2 t1 (0 : Int32) (4 : Int32) (4 : Int32))) rfl ?_
  show GO p e below s₁ (mkF m 4 (la2 t1 (0 : Int32) (4 : Int32) (4 : Int32)) []) _
  refine XS.iloadN X0.here hx rfl (hb hby d29_4) rfl ?_
  show GO p e below s₁ (mkF m 5 (la2 t1 (0 : Int32) (4 : Int32) (4 : Int32)) [(.int 0)]) _
  refine XS.istore X0.here hx rfl (hb hby d29_5) rfl (l' := (la3 t1 (0 : Int32) (4 : Int32) (4 : Int32) (0 : Int32))) rfl ?_
  show GO p e below s₁ (mkF m 7 (la3 t1 (0 : Int32) (4 : Int32) (4 : Int32) (0 : Int32)) []) _
  refine XS.iload X0.here hx rfl (hb hby d29_7) rfl ?_
  show GO p e below s₁ (mkF m 9 (la3 t1 (0 : Int32) (4 : Int32) (4 : Int32) (0 : Int32)) [(.int 0)]) _
  refine XS.iloadN X0.here hx rfl (hb hby d29_9) rfl ?_
  show GO p e below s₁ (mkF m 10 (la3 t1 (0 : Int32) (4 : Int32) (4 : Int32) (0 : Int32)) [(.int 4), (.int 0)]) _
  refine XS.icmpNo X0.here hx rfl (hb hby d29_10) rfl (tlt ((by decide) : (0 : Int32) < (4 : Int32))).2.1 ?_
  show GO p e below s₁ (mkF m 13 (la3 t1 (0 : Int32) (4 : Int32) (4 : Int32) (0 : Int32)) []) _
  refine XS.aloadN X0.here hx rfl (hb hby d29_13) rfl rfl ?_
  show GO p e below s₁ (mkF m 14 (la3 t1 (0 : Int32) (4 : Int32) (4 : Int32) (0 : Int32)) [(.ref t1)]) _
  refine XS.iload X0.here hx rfl (hb hby d29_14) rfl ?_
  show GO p e below s₁ (mkF m 16 (la3 t1 (0 : Int32) (4 : Int32) (4 : Int32) (0 : Int32)) [(.int 0), (.ref t1)]) _
  refine X0.baloadBytes hx (j := (0 : Int32)) (v := (.int xs0)) (by rw [e0]; exact Ar508.1) (State.isArrayOf_alike hZ.alike Ar508.2.1) Ar508.2.2 hin508 hat508 (g := (mkF m 16 (la3 t1 (0 : Int32) (4 : Int32) (4 : Int32) (0 : Int32)) [(.int 0), (.ref t1)])) rfl rfl (hb hby d29_16) _ ?_
  show GO p e below s₁ (mkF m 17 (la3 t1 (0 : Int32) (4 : Int32) (4 : Int32) (0 : Int32)) [(.int xs0)]) _
  refine XS.ifYes X0.here hx rfl (pc0 := 17) (pc' := 25) rfl (hb hby d29_17) rfl ((if0 _ _).trans (flt (hg0 : ¬ (xs0 < (0 : Int32)))).2.1) (by decide) (by decide) ?_
  show GO p e below s₁ (mkF m 25 (la3 t1 (0 : Int32) (4 : Int32) (4 : Int32) (0 : Int32)) []) _
  refine XS.iinc X0.here hx rfl (hb hby d29_25) rfl (l' := (la3 t1 (0 : Int32) (4 : Int32) (4 : Int32) ((0 : Int32) + (1 : Int32)))) rfl ?_
  rw [show ((0 : Int32) + (1 : Int32)) = (1 : Int32) from by decide]
  show GO p e below s₁ (mkF m 28 (la3 t1 (0 : Int32) (4 : Int32) (4 : Int32) (1 : Int32)) []) _
  refine XS.goto X0.here hx rfl (pc0 := 28) (pc' := 7) rfl (hb hby d29_28) (by decide) (by decide) ?_
  show GO p e below s₁ (mkF m 7 (la3 t1 (0 : Int32) (4 : Int32) (4 : Int32) (1 : Int32)) []) _
  refine XS.iload X0.here hx rfl (hb hby d29_7) rfl ?_
  show GO p e below s₁ (mkF m 9 (la3 t1 (0 : Int32) (4 : Int32) (4 : Int32) (1 : Int32)) [(.int 1)]) _
  refine XS.iloadN X0.here hx rfl (hb hby d29_9) rfl ?_
  show GO p e below s₁ (mkF m 10 (la3 t1 (0 : Int32) (4 : Int32) (4 : Int32) (1 : Int32)) [(.int 4), (.int 1)]) _
  refine XS.icmpNo X0.here hx rfl (hb hby d29_10) rfl (tlt ((by decide) : (1 : Int32) < (4 : Int32))).2.1 ?_
  show GO p e below s₁ (mkF m 13 (la3 t1 (0 : Int32) (4 : Int32) (4 : Int32) (1 : Int32)) []) _
  refine XS.aloadN X0.here hx rfl (hb hby d29_13) rfl rfl ?_
  show GO p e below s₁ (mkF m 14 (la3 t1 (0 : Int32) (4 : Int32) (4 : Int32) (1 : Int32)) [(.ref t1)]) _
  refine XS.iload X0.here hx rfl (hb hby d29_14) rfl ?_
  show GO p e below s₁ (mkF m 16 (la3 t1 (0 : Int32) (4 : Int32) (4 : Int32) (1 : Int32)) [(.int 1), (.ref t1)]) _
  refine X0.baloadBytes hx (j := (1 : Int32)) (v := (.int xs1)) (by rw [e0]; exact Ar509.1) (State.isArrayOf_alike hZ.alike Ar509.2.1) Ar509.2.2 hin509 hat509 (g := (mkF m 16 (la3 t1 (0 : Int32) (4 : Int32) (4 : Int32) (1 : Int32)) [(.int 1), (.ref t1)])) rfl rfl (hb hby d29_16) _ ?_
  show GO p e below s₁ (mkF m 17 (la3 t1 (0 : Int32) (4 : Int32) (4 : Int32) (1 : Int32)) [(.int xs1)]) _
  refine XS.ifYes X0.here hx rfl (pc0 := 17) (pc' := 25) rfl (hb hby d29_17) rfl ((if0 _ _).trans (flt (hg1 : ¬ (xs1 < (0 : Int32)))).2.1) (by decide) (by decide) ?_
  show GO p e below s₁ (mkF m 25 (la3 t1 (0 : Int32) (4 : Int32) (4 : Int32) (1 : Int32)) []) _
  refine XS.iinc X0.here hx rfl (hb hby d29_25) rfl (l' := (la3 t1 (0 : Int32) (4 : Int32) (4 : Int32) ((1 : Int32) + (1 : Int32)))) rfl ?_
  rw [show ((1 : Int32) + (1 : Int32)) = (2 : Int32) from by decide]
  show GO p e below s₁ (mkF m 28 (la3 t1 (0 : Int32) (4 : Int32) (4 : Int32) (2 : Int32)) []) _
  refine XS.goto X0.here hx rfl (pc0 := 28) (pc' := 7) rfl (hb hby d29_28) (by decide) (by decide) ?_
  show GO p e below s₁ (mkF m 7 (la3 t1 (0 : Int32) (4 : Int32) (4 : Int32) (2 : Int32)) []) _
  refine XS.iload X0.here hx rfl (hb hby d29_7) rfl ?_
  show GO p e below s₁ (mkF m 9 (la3 t1 (0 : Int32) (4 : Int32) (4 : Int32) (2 : Int32)) [(.int 2)]) _
  refine XS.iloadN X0.here hx rfl (hb hby d29_9) rfl ?_
  show GO p e below s₁ (mkF m 10 (la3 t1 (0 : Int32) (4 : Int32) (4 : Int32) (2 : Int32)) [(.int 4), (.int 2)]) _
  refine XS.icmpNo X0.here hx rfl (hb hby d29_10) rfl (tlt ((by decide) : (2 : Int32) < (4 : Int32))).2.1 ?_
  show GO p e below s₁ (mkF m 13 (la3 t1 (0 : Int32) (4 : Int32) (4 : Int32) (2 : Int32)) []) _
  refine XS.aloadN X0.here hx rfl (hb hby d29_13) rfl rfl ?_
  show GO p e below s₁ (mkF m 14 (la3 t1 (0 : Int32) (4 : Int32) (4 : Int32) (2 : Int32)) [(.ref t1)]) _
  refine XS.iload X0.here hx rfl (hb hby d29_14) rfl ?_
  show GO p e below s₁ (mkF m 16 (la3 t1 (0 : Int32) (4 : Int32) (4 : Int32) (2 : Int32)) [(.int 2), (.ref t1)]) _
  refine X0.baloadBytes hx (j := (2 : Int32)) (v := (.int xs2)) (by rw [e0]; exact Ar510.1) (State.isArrayOf_alike hZ.alike Ar510.2.1) Ar510.2.2 hin510 hat510 (g := (mkF m 16 (la3 t1 (0 : Int32) (4 : Int32) (4 : Int32) (2 : Int32)) [(.int 2), (.ref t1)])) rfl rfl (hb hby d29_16) _ ?_
  show GO p e below s₁ (mkF m 17 (la3 t1 (0 : Int32) (4 : Int32) (4 : Int32) (2 : Int32)) [(.int xs2)]) _
  refine XS.ifYes X0.here hx rfl (pc0 := 17) (pc' := 25) rfl (hb hby d29_17) rfl ((if0 _ _).trans (flt (hg2 : ¬ (xs2 < (0 : Int32)))).2.1) (by decide) (by decide) ?_
  show GO p e below s₁ (mkF m 25 (la3 t1 (0 : Int32) (4 : Int32) (4 : Int32) (2 : Int32)) []) _
  refine XS.iinc X0.here hx rfl (hb hby d29_25) rfl (l' := (la3 t1 (0 : Int32) (4 : Int32) (4 : Int32) ((2 : Int32) + (1 : Int32)))) rfl ?_
  rw [show ((2 : Int32) + (1 : Int32)) = (3 : Int32) from by decide]
  show GO p e below s₁ (mkF m 28 (la3 t1 (0 : Int32) (4 : Int32) (4 : Int32) (3 : Int32)) []) _
  refine XS.goto X0.here hx rfl (pc0 := 28) (pc' := 7) rfl (hb hby d29_28) (by decide) (by decide) ?_
  show GO p e below s₁ (mkF m 7 (la3 t1 (0 : Int32) (4 : Int32) (4 : Int32) (3 : Int32)) []) _
  refine XS.iload X0.here hx rfl (hb hby d29_7) rfl ?_
  show GO p e below s₁ (mkF m 9 (la3 t1 (0 : Int32) (4 : Int32) (4 : Int32) (3 : Int32)) [(.int 3)]) _
  refine XS.iloadN X0.here hx rfl (hb hby d29_9) rfl ?_
  show GO p e below s₁ (mkF m 10 (la3 t1 (0 : Int32) (4 : Int32) (4 : Int32) (3 : Int32)) [(.int 4), (.int 3)]) _
  refine XS.icmpNo X0.here hx rfl (hb hby d29_10) rfl (tlt ((by decide) : (3 : Int32) < (4 : Int32))).2.1 ?_
  show GO p e below s₁ (mkF m 13 (la3 t1 (0 : Int32) (4 : Int32) (4 : Int32) (3 : Int32)) []) _
  refine XS.aloadN X0.here hx rfl (hb hby d29_13) rfl rfl ?_
  show GO p e below s₁ (mkF m 14 (la3 t1 (0 : Int32) (4 : Int32) (4 : Int32) (3 : Int32)) [(.ref t1)]) _
  refine XS.iload X0.here hx rfl (hb hby d29_14) rfl ?_
  show GO p e below s₁ (mkF m 16 (la3 t1 (0 : Int32) (4 : Int32) (4 : Int32) (3 : Int32)) [(.int 3), (.ref t1)]) _
  refine X0.baloadBytes hx (j := (3 : Int32)) (v := (.int xs3)) (by rw [e0]; exact Ar511.1) (State.isArrayOf_alike hZ.alike Ar511.2.1) Ar511.2.2 hin511 hat511 (g := (mkF m 16 (la3 t1 (0 : Int32) (4 : Int32) (4 : Int32) (3 : Int32)) [(.int 3), (.ref t1)])) rfl rfl (hb hby d29_16) _ ?_
  show GO p e below s₁ (mkF m 17 (la3 t1 (0 : Int32) (4 : Int32) (4 : Int32) (3 : Int32)) [(.int xs3)]) _
  refine XS.ifYes X0.here hx rfl (pc0 := 17) (pc' := 25) rfl (hb hby d29_17) rfl ((if0 _ _).trans (flt (hg3 : ¬ (xs3 < (0 : Int32)))).2.1) (by decide) (by decide) ?_
  show GO p e below s₁ (mkF m 25 (la3 t1 (0 : Int32) (4 : Int32) (4 : Int32) (3 : Int32)) []) _
  refine XS.iinc X0.here hx rfl (hb hby d29_25) rfl (l' := (la3 t1 (0 : Int32) (4 : Int32) (4 : Int32) ((3 : Int32) + (1 : Int32)))) rfl ?_
  rw [show ((3 : Int32) + (1 : Int32)) = (4 : Int32) from by decide]
  show GO p e below s₁ (mkF m 28 (la3 t1 (0 : Int32) (4 : Int32) (4 : Int32) (4 : Int32)) []) _
  refine XS.goto X0.here hx rfl (pc0 := 28) (pc' := 7) rfl (hb hby d29_28) (by decide) (by decide) ?_
  show GO p e below s₁ (mkF m 7 (la3 t1 (0 : Int32) (4 : Int32) (4 : Int32) (4 : Int32)) []) _
  refine XS.iload X0.here hx rfl (hb hby d29_7) rfl ?_
  show GO p e below s₁ (mkF m 9 (la3 t1 (0 : Int32) (4 : Int32) (4 : Int32) (4 : Int32)) [(.int 4)]) _
  refine XS.iloadN X0.here hx rfl (hb hby d29_9) rfl ?_
  show GO p e below s₁ (mkF m 10 (la3 t1 (0 : Int32) (4 : Int32) (4 : Int32) (4 : Int32)) [(.int 4), (.int 4)]) _
  refine XS.icmpYes X0.here hx rfl (pc0 := 10) (pc' := 31) rfl (hb hby d29_10) rfl (flt ((by decide) : ¬ ((4 : Int32) < (4 : Int32)))).2.1 (by decide) (by decide) ?_
  show GO p e below s₁ (mkF m 31 (la3 t1 (0 : Int32) (4 : Int32) (4 : Int32) (4 : Int32)) []) _
  refine XS.iloadN X0.here hx rfl (hb hby d29_31) rfl ?_
  show GO p e below s₁ (mkF m 32 (la3 t1 (0 : Int32) (4 : Int32) (4 : Int32) (4 : Int32)) [(.int 4)]) _
  exact retI X0 hx Bd.returns (hb hby d29_32) hr
 ·show Qrm_cp4 Z t1 k1 xs0 xs1 xs2 xs3 h0 n0 _ s₁.heap _
  rw [e0]
  exact ⟨rfl, N0, rfl⟩
def Qrm_ea4 (Z : State) (t1 : Addr) (k1 : ClassId) (xs0 : Int32) (xs1 : Int32) (xs2 : Int32) (xs3 : Int32) (h0 : Heap) (n0 : Nat) (v : Option Value) (h : Heap) (L : List Loc) : Prop := ∃ t : Addr, ∃ k : ClassId, v = some (.ref t) ∧ Fr n0 L ∧ Keep h0 h [] ∧ Arv Z h t k .byte (4 : Int32) [(.int xs0), (.int xs1), (.int xs2), (.int xs3)] (.int 0)
theorem ef_rm_ea4 (m : MethodId) (x0 : Int32) (x1 : Addr) : entryFrame m #[(.int x0), (.ref x1)] 7 = mkF m 0 (la4 x0 x1) [] := by first | rfl | (simp [entryFrame, mkF, argsToLocals, Value.category]; done)
theorem rm_ea4 (l : Launch) (Z : State) (a0 : Array Value) (hw : HW Z a0) (ws : List Jvm.Cond) (t1 : Addr) (k1 : ClassId) (xs0 : Int32) (xs1 : Int32) (xs2 : Int32) (xs3 : Int32) (h0 : Heap) (n0 : Nat) (Z0 : n0 ≤ h0.size) (E1 : Exa Z h0 t1 "[B") (V1 : Arv Z h0 t1 k1 .byte (4 : Int32) [(.int xs0), (.int xs1), (.int xs2), (.int xs3)] (.int 0)) (hg0 : ¬ xs0 < 0) (hg1 : ¬ xs1 < 0) (hg2 : ¬ xs2 < 0) (hg3 : ¬ xs3 < 0) :
  OwnM l Z h0 (⟨kS1, "encodeASCII", "(B[B)[B"⟩ : MethodName) (Jvm.Cond.code (⟨kS1, "encodeASCII", "(B[B)[B"⟩ : MethodName) jdk_42_method_24_code 7 (some (.array .byte)) :: ws) (RM 1 1 4 16) #[(.int 0), (.ref t1)] (Qrm_ea4 Z t1 k1 xs0 xs1 xs2 xs3 h0 n0) := by
 refine MetFree.of_bodySF (plainFor_of_name pn_0) hisR ?_
 intro p e s m args below meth c s₁ Bd hml0 hP hK
 obtain ⟨rfl, hZ, hh⟩ := hP
 have hx := Bd.exec
 have hby := Bd.bytes
 have hml : c.maxLocals = 7 := hml0
 have hown : s.vm.findClass kS1 = some m.cls := findClass_of_methodNamed Bd.named
 have hnm := (name_of_methodNamed Bd.named Bd.method).1
 have X0 : Stand p l e (RM 1 1 4 16) s m #[(.int 0), (.ref t1)] below meth c s₁ [] 0 0 := Stand.of_body Bd
 have e0 : s₁.heap = h0 := by rw [← hh, Bd.state]; rfl
 have N0 := Fr.nil n0
 have pre0 : ∀ t, GO p e below s₁ (mkF m 0 (la4 (0 : Int32) t1) []) t → GO p e below s₁ (entryFrame m #[(.int 0), (.ref t1)] 7) t := fun t k => castTop (ef_rm_ea4 m ((0 : Int32)) t1) k
 have lt_E1 := ltA E1.lt
 have lt_V1 := ltA V1.lt
 obtain ⟨cl512, Ar512, -, S512, M512, -, -⟩ := id V1
 -- pc 8: StringCoding.countPositives by rm_cp4
 obtain ⟨_, _, ⟨T513, L513, k513, n513⟩, -, X513, ⟨Lc513, hQ513, l513, y513, z513⟩, st513⟩ := Jvm.LawKit.callS X0 hx (y := (⟨"java/lang/StringCoding", "countPositives", "([BII)I"⟩ : MethodName)) hown (mvT hZ (wd hw 157 rfl)) (mvT hZ (wd hw 158 rfl)) (mvT hZ (wd hw 159 rfl)) (mvT hZ (wd hw 160 rfl)) (by decide) (backOf (W := 0) (rm_cp4 l Z a0 hw [] t1 k1 xs0 xs1 xs2 xs3 h0 n0 (by omega) V1 (by first | assumption | decide | omega) (by first | assumption | decide | omega) (by first | assumption | decide | omega) (by first | assumption | decide | omega)) hZ (wd hw 160 rfl) (wd hw 159 rfl) (by decide) (by decide)) (g := (mkF m 8 (la4 (0 : Int32) t1) [(.int 4), (.int 0), (.ref t1)])) rfl (by rw [hml]; rfl) (argsL := [(.ref t1), (.int 0), (.int 4)]) (rest := []) (lenOf pd_1 rfl) rfl (wz rfl) (hb hby d28_8) (fun _ _ => ⟨rfl, e0, (by decide : 0 + 0 ≤ _), (by decide : 0 + 0 ≤ _)⟩)
 dsimp only [Pt.U, Pt.locs, Pt.cells, Pt.slots] at X513 l513 y513 z513 st513 hQ513
 subst l513 y513 z513
 obtain ⟨rfl, N513q, e513⟩ := hQ513
 have N513 := Fr.app N0 N513q
 obtain ⟨T514, h514, X514, e514, E514, A514, D514, st514⟩ := cloneH X513 hx hZ hown (wd hw 161 rfl) (wd hw 162 rfl) (wd hw 166 rfl) (wd hw 164 rfl) (wd hw 165 rfl) (wd hw 167 rfl) e513 (Arv.arh V1) E1 (g := (mkF m 13 (la5 (0 : Int32) t1 (4 : Int32)) [(.ref t1)])) rfl (by rw [hml]; rfl) rfl (hb hby d28_13) (by decide) (W := 0) (cap := 4) (wz rfl) (by decide) (by decide) (by decide) (by decide)
 obtain ⟨b514, g514⟩ : ∃ z, z = h0.size := ⟨_, rfl⟩
 rw [← g514] at A514 D514 st514
 have sz514 : h0.size ≤ h514.size := E514.1
 have V514 : Arv Z h514 b514 k1 .byte (4 : Int32) [(.int xs0), (.int xs1), (.int xs2), (.int xs3)] (.int 0) := A514
 have lt514 := ltA V514.lt
 obtain ⟨T515, X515, e515, st515⟩ := castY X514 hx hZ hown (wd hw 168 rfl) e514 (Ins.self D514) (g := (mkF m 16 (la5 (0 : Int32) t1 (4 : Int32)) [(.ref b514)])) rfl rfl (hb hby d28_16)
 obtain ⟨cl516, Ar516, -, S516, M516, -, -⟩ := id V514
 obtain ⟨fs, hr, hrun, hended, hW, hsame⟩ := X515.leave (v := some (.ref b514)) (fun h => by rw [Bd.returns] at h; cases h)
 refine ⟨_, _, pre0 _ ?_, hrun, hended, _, _, rfl, ?_, ⟨_, rfl⟩, hW, hsame.mono (by decide) (by decide)⟩
 ·show GO p e below s₁ (mkF m 0 (la4 (0 : Int32) t1) []) _
  refine XS.iloadN X0.here hx rfl (hb hby d28_0) rfl ?_
  show GO p e below s₁ (mkF m 1 (la4 (0 : Int32) t1) [(.int 0)]) _
  refine XS.ifNo X0.here hx rfl (hb hby d28_1) rfl ((if0 _ _).trans (teq (rfl : (0 : Int32) = (0 : Int32))).2) ?_
  show GO p e below s₁ (mkF m 4 (la4 (0 : Int32) t1) []) _
  refine XS.aloadN X0.here hx rfl (hb hby d28_4) rfl rfl ?_
  show GO p e below s₁ (mkF m 5 (la4 (0 : Int32) t1) [(.ref t1)]) _
  refine XS.iconst X0.here hx rfl (hb hby d28_5) ?_
  show GO p e below s₁ (mkF m 6 (la4 (0 : Int32) t1) [(.int 0), (.ref t1)]) _
  refine XS.aloadN X0.here hx rfl (hb hby d28_6) rfl rfl ?_
  show GO p e below s₁ (mkF m 7 (la4 (0 : Int32) t1) [(.ref t1), (.int 0), (.ref t1)]) _
  refine X0.arraylength hx (by rw [e0]; exact Ar512.1) (State.isArrayOf_alike hZ.alike Ar512.2.1) (g := (mkF m 7 (la4 (0 : Int32) t1) [(.ref t1), (.int 0), (.ref t1)])) rfl rfl (hb hby d28_7) _ ?_
  rw [len_of S512 M512]
  show GO p e below s₁ (mkF m 8 (la4 (0 : Int32) t1) [(.int 4), (.int 0), (.ref t1)]) _
  refine st513 _ ?_
  show GO p e below T513 (mkF m 11 (la4 (0 : Int32) t1) [(.int 4)]) _
  refine XS.istoreN X513.here hx rfl (hb hby d28_11) rfl (l' := (la5 (0 : Int32) t1 (4 : Int32))) rfl ?_
  show GO p e below T513 (mkF m 12 (la5 (0 : Int32) t1 (4 : Int32)) []) _
  refine XS.aloadN X513.here hx rfl (hb hby d28_12) rfl rfl ?_
  show GO p e below T513 (mkF m 13 (la5 (0 : Int32) t1 (4 : Int32)) [(.ref t1)]) _
  refine st514 _ ?_
  show GO p e below T514 (mkF m 16 (la5 (0 : Int32) t1 (4 : Int32)) [(.ref b514)]) _
  refine st515 _ ?_
  show GO p e below T515 (mkF m 19 (la5 (0 : Int32) t1 (4 : Int32)) [(.ref b514)]) _
  refine XS.astoreN X515.here hx rfl (hb hby d28_19) rfl rfl (l' := (la6 (0 : Int32) t1 (4 : Int32) b514)) rfl ?_
  show GO p e below T515 (mkF m 20 (la6 (0 : Int32) t1 (4 : Int32) b514) []) _
  refine XS.iloadN X515.here hx rfl (hb hby d28_20) rfl ?_
  show GO p e below T515 (mkF m 21 (la6 (0 : Int32) t1 (4 : Int32) b514) [(.int 4)]) _
  refine XS.aloadN X515.here hx rfl (hb hby d28_21) rfl rfl ?_
  show GO p e below T515 (mkF m 22 (la6 (0 : Int32) t1 (4 : Int32) b514) [(.ref b514), (.int 4)]) _
  refine X515.arraylength hx (by rw [e515]; exact Ar516.1) (State.isArrayOf_alike hZ.alike Ar516.2.1) (g := (mkF m 22 (la6 (0 : Int32) t1 (4 : Int32) b514) [(.ref b514), (.int 4)])) rfl rfl (hb hby d28_22) _ ?_
  rw [len_of S516 M516]
  show GO p e below T515 (mkF m 23 (la6 (0 : Int32) t1 (4 : Int32) b514) [(.int 4), (.int 4)]) _
  refine XS.icmpYes X515.here hx rfl (pc0 := 23) (pc' := 31) rfl (hb hby d28_23) rfl (flt ((by decide) : ¬ ((4 : Int32) < (4 : Int32)))).2.1 (by decide) (by decide) ?_
  show GO p e below T515 (mkF m 31 (la6 (0 : Int32) t1 (4 : Int32) b514) []) _
  refine XS.aloadN X515.here hx rfl (hb hby d28_31) rfl rfl ?_
  show GO p e below T515 (mkF m 32 (la6 (0 : Int32) t1 (4 : Int32) b514) [(.ref b514)]) _
  exact retOut X515 hx Bd.returns rfl (Or.inr (Or.inr (Or.inr (Or.inr ⟨rfl, rfl, rfl⟩)))) (hb hby d28_32) hr
 ·show Qrm_ea4 Z t1 k1 xs0 xs1 xs2 xs3 h0 n0 _ T515.heap _
  rw [e515]
  exact ⟨b514, k1, rfl, N513, ((Keep.refl h0 []).ext E514), V514⟩
def Qrm_enc4 (Z : State) (q0 : Addr) (q1 : Addr) (q2 : Addr) (t1 : Addr) (k1 : ClassId) (xs0 : Int32) (xs1 : Int32) (xs2 : Int32) (xs3 : Int32) (h0 : Heap) (n0 : Nat) (v : Option Value) (h : Heap) (L : List Loc) : Prop := ∃ t : Addr, ∃ k : ClassId, v = some (.ref t) ∧ Fr n0 L ∧ Keep h0 h [] ∧ Arv Z h t k .byte (4 : Int32) [(.int xs0), (.int xs1), (.int xs2), (.int xs3)] (.int 0)
theorem ef_rm_enc4 (m : MethodId) (x0 : Addr) (x1 : Int32) (x2 : Addr) : entryFrame m #[(.ref x0), (.int x1), (.ref x2)] 3 = mkF m 0 (la7 x0 x1 x2) [] := by first | rfl | (simp [entryFrame, mkF, argsToLocals, Value.category]; done)
theorem rm_enc4 (l : Launch) (Z : State) (a0 : Array Value) (hw : HW Z a0) (ws : List Jvm.Cond) (q0 : Addr) (q1 : Addr) (q2 : Addr) (t1 : Addr) (k1 : ClassId) (xs0 : Int32) (xs1 : Int32) (xs2 : Int32) (xs3 : Int32) (h0 : Heap) (n0 : Nat) (Z0 : n0 ≤ h0.size) (O0 : Old Z n0 h0) (E1 : Exa Z h0 t1 "[B") (V1 : Arv Z h0 t1 k1 .byte (4 : Int32) [(.int xs0), (.int xs1), (.int xs2), (.int xs3)] (.int 0)) (HC : OwnC Z q0 q1 q2) (hg0 : ¬ xs0 < 0) (hg1 : ¬ xs1 < 0) (hg2 : ¬ xs2 < 0) (hg3 : ¬ xs3 < 0) :
  OwnM l Z h0 (⟨kS1, "encode", "(Ljava/nio/charset/Charset;B[B)[B"⟩ : MethodName) (Jvm.Cond.code (⟨kS1, "encode", "(Ljava/nio/charset/Charset;B[B)[B"⟩ : MethodName) jdk_42_method_18_code 3 (some (.array .byte)) :: ws) (RM 2 1 4 34) #[(.ref q0), (.int 0), (.ref t1)] (Qrm_enc4 Z q0 q1 q2 t1 k1 xs0 xs1 xs2 xs3 h0 n0) := by
 refine MetFree.of_bodySF (plainFor_of_name pn_0) hisR ?_
 intro p e s m args below meth c s₁ Bd hml0 hP hK
 obtain ⟨rfl, hZ, hh⟩ := hP
 have hx := Bd.exec
 have hby := Bd.bytes
 have hml : c.maxLocals = 3 := hml0
 have hown : s.vm.findClass kS1 = some m.cls := findClass_of_methodNamed Bd.named
 have hnm := (name_of_methodNamed Bd.named Bd.method).1
 have X0 : Stand p l e (RM 2 1 4 34) s m #[(.ref q0), (.int 0), (.ref t1)] below meth c s₁ [] 0 0 := Stand.of_body Bd
 have e0 : s₁.heap = h0 := by rw [← hh, Bd.state]; rfl
 have N0 := Fr.nil n0
 have pre0 : ∀ t, GO p e below s₁ (mkF m 0 (la7 q0 (0 : Int32) t1) []) t → GO p e below s₁ (entryFrame m #[(.ref q0), (.int 0), (.ref t1)] 3) t := fun t k => castTop (ef_rm_enc4 m q0 ((0 : Int32)) t1) k
 have lt_E1 := ltA E1.lt
 have lt_V1 := ltA V1.lt
 obtain ⟨SZq0, SZqa, SZq1, SZq2, nq1, nq2⟩ := HC
 have S517 : Sta Z h0 "sun/nio/cs/UTF_8" "INSTANCE" "Lsun/nio/cs/UTF_8;" (.ref q1) := SZq1.ext O0.2
 obtain ⟨T518, X518, e518, st518⟩ := getS2 X0 hx hZ hown (host := "") (Or.inl (wd hw 148 rfl)) Via.refl e0 S517 (g := (mkF m 1 (la7 q0 (0 : Int32) t1) [(.ref q0)])) rfl (hb hby d27_1)
 have S519 : Sta Z h0 "sun/nio/cs/ISO_8859_1" "INSTANCE" "Lsun/nio/cs/ISO_8859_1;" (.ref q2) := SZq2.ext O0.2
 obtain ⟨T520, X520, e520, st520⟩ := getS2 X518 hx hZ hown (host := "") (Or.inl (wd hw 150 rfl)) Via.refl e518 S519 (g := (mkF m 15 (la7 q0 (0 : Int32) t1) [(.ref q0)])) rfl (hb hby d27_15)
 have S521 : Sta Z h0 "sun/nio/cs/US_ASCII" "INSTANCE" "Lsun/nio/cs/US_ASCII;" (.ref q0) := SZqa.ext O0.2
 obtain ⟨T522, X522, e522, st522⟩ := getS2 X520 hx hZ hown (host := "") (Or.inl (wd hw 152 rfl)) Via.refl e520 S521 (g := (mkF m 28 (la7 q0 (0 : Int32) t1) [(.ref q0)])) rfl (hb hby d27_28)
 -- pc 36: String.encodeASCII by rm_ea4
 obtain ⟨_, _, ⟨T523, L523, k523, n523⟩, -, X523, ⟨Lc523, hQ523, l523, y523, z523⟩, st523⟩ := Jvm.LawKit.callS X522 hx (y := (⟨kS1, "encodeASCII", "(B[B)[B"⟩ : MethodName)) hown (mvT hZ (wd hw 154 rfl)) (mvT hZ (wd hw 155 rfl)) (mvT hZ (wd hw 3 rfl)) (mvT hZ (wd hw 156 rfl)) (by decide) (backOf (W := 0) (rm_ea4 l Z a0 hw [] t1 k1 xs0 xs1 xs2 xs3 h0 n0 (by omega) E1 V1 (by first | assumption | decide | omega) (by first | assumption | decide | omega) (by first | assumption | decide | omega) (by first | assumption | decide | omega)) hZ (wd hw 156 rfl) (wd hw 3 rfl) (by decide) (by decide)) (g := (mkF m 36 (la7 q0 (0 : Int32) t1) [(.ref t1), (.int 0)])) rfl (by rw [hml]; rfl) (argsL := [(.int 0), (.ref t1)]) (rest := []) (lenOf pd_2 rfl) rfl (wz rfl) (hb hby d27_36) (fun _ _ => ⟨rfl, e522, (by decide : 0 + 1 ≤ _), (by decide : 0 + 4 ≤ _)⟩)
 dsimp only [Pt.U, Pt.locs, Pt.cells, Pt.slots] at X523 l523 y523 z523 st523 hQ523
 subst l523 y523 z523
 obtain ⟨h523, e523⟩ : ∃ z, T523.heap = z := ⟨_, rfl⟩
 rw [e523] at hQ523
 obtain ⟨t_523, k_523, rfl, N523q, K523, p523_0⟩ := hQ523
 have N523 := Fr.app N0 N523q
 have sz523 : h0.size ≤ h523.size := K523.1
 have lt523_0 := ltA p523_0.lt
 obtain ⟨fs, hr, hrun, hended, hW, hsame⟩ := X523.leave (v := some (.ref t_523)) (fun h => by rw [Bd.returns] at h; cases h)
 refine ⟨_, _, pre0 _ ?_, hrun, hended, _, _, rfl, ?_, ⟨_, rfl⟩, hW, hsame.mono (by decide) (by decide)⟩
 ·show GO p e below s₁ (mkF m 0 (la7 q0 (0 : Int32) t1) []) _
  refine XS.aloadN X0.here hx rfl (hb hby d27_0) rfl rfl ?_
  show GO p e below s₁ (mkF m 1 (la7 q0 (0 : Int32) t1) [(.ref q0)]) _
  refine st518 _ ?_
  show GO p e below T518 (mkF m 4 (la7 q0 (0 : Int32) t1) [(.ref q1), (.ref q0)]) _
  refine Jvm.RoadKit.acmp (g := (mkF m 4 (la7 q0 (0 : Int32) t1) [(.ref q1), (.ref q0)])) X518 hx rfl rfl rfl (pc0 := 4) (pc' := 14) (same := false) rfl (hb hby d27_4) rfl (decide_eq_false fun q => absurd (Value.ref.inj q) nq1) (by decide) (by decide) ?_
  show GO p e below T518 (mkF m 14 (la7 q0 (0 : Int32) t1) []) _
  refine XS.aloadN X518.here hx rfl (hb hby d27_14) rfl rfl ?_
  show GO p e below T518 (mkF m 15 (la7 q0 (0 : Int32) t1) [(.ref q0)]) _
  refine st520 _ ?_
  show GO p e below T520 (mkF m 18 (la7 q0 (0 : Int32) t1) [(.ref q2), (.ref q0)]) _
  refine Jvm.RoadKit.acmp (g := (mkF m 18 (la7 q0 (0 : Int32) t1) [(.ref q2), (.ref q0)])) X520 hx rfl rfl rfl (pc0 := 18) (pc' := 27) (same := false) rfl (hb hby d27_18) rfl (decide_eq_false fun q => absurd (Value.ref.inj q) nq2) (by decide) (by decide) ?_
  show GO p e below T520 (mkF m 27 (la7 q0 (0 : Int32) t1) []) _
  refine XS.aloadN X520.here hx rfl (hb hby d27_27) rfl rfl ?_
  show GO p e below T520 (mkF m 28 (la7 q0 (0 : Int32) t1) [(.ref q0)]) _
  refine st522 _ ?_
  show GO p e below T522 (mkF m 31 (la7 q0 (0 : Int32) t1) [(.ref q0), (.ref q0)]) _
  refine Jvm.RoadKit.acmp (g := (mkF m 31 (la7 q0 (0 : Int32) t1) [(.ref q0), (.ref q0)])) X522 hx rfl rfl rfl (pc0 := 31) (pc' := 34) (same := true) rfl (hb hby d27_31) rfl (decide_eq_true rfl) (by decide) (by decide) ?_
  show GO p e below T522 (mkF m 34 (la7 q0 (0 : Int32) t1) []) _
  refine XS.iloadN X522.here hx rfl (hb hby d27_34) rfl ?_
  show GO p e below T522 (mkF m 35 (la7 q0 (0 : Int32) t1) [(.int 0)]) _
  refine XS.aloadN X522.here hx rfl (hb hby d27_35) rfl rfl ?_
  show GO p e below T522 (mkF m 36 (la7 q0 (0 : Int32) t1) [(.ref t1), (.int 0)]) _
  refine st523 _ ?_
  show GO p e below T523 (mkF m 39 (la7 q0 (0 : Int32) t1) [(.ref t_523)]) _
  exact retOut X523 hx Bd.returns rfl (Or.inr (Or.inr (Or.inr (Or.inr ⟨rfl, rfl, rfl⟩)))) (hb hby d27_39) hr
 ·show Qrm_enc4 Z q0 q1 q2 t1 k1 xs0 xs1 xs2 xs3 h0 n0 _ T523.heap _
  rw [e523]
  exact ⟨t_523, k_523, rfl, N523, ((Keep.refl h0 []).trans K523 all0), p523_0⟩
def Qrm_gbc4 (Z : State) (q0 : Addr) (q1 : Addr) (q2 : Addr) (x1 : Addr) (t1 : Addr) (k1 : ClassId) (xs0 : Int32) (xs1 : Int32) (xs2 : Int32) (xs3 : Int32) (z0 : Int32) (h0 : Heap) (n0 : Nat) (v : Option Value) (h : Heap) (L : List Loc) : Prop := ∃ t : Addr, ∃ k : ClassId, v = some (.ref t) ∧ Fr n0 L ∧ Keep h0 h [] ∧ Arv Z h t k .byte (4 : Int32) [(.int xs0), (.int xs1), (.int xs2), (.int xs3)] (.int 0)
theorem ef_rm_gbc4 (m : MethodId) (x0 : Addr) (x1 : Addr) : entryFrame m #[(.ref x0), (.ref x1)] 2 = mkF m 0 #[.val (.ref x0), .val (.ref x1)] [] := by first | rfl | (simp [entryFrame, mkF, argsToLocals, Value.category]; done)
theorem rm_gbc4 (l : Launch) (Z : State) (a0 : Array Value) (hw : HW Z a0) (ws : List Jvm.Cond) (q0 : Addr) (q1 : Addr) (q2 : Addr) (x1 : Addr) (t1 : Addr) (k1 : ClassId) (xs0 : Int32) (xs1 : Int32) (xs2 : Int32) (xs3 : Int32) (z0 : Int32) (h0 : Heap) (n0 : Nat) (Z0 : n0 ≤ h0.size) (O0 : Old Z n0 h0) (Esx1 : Exa Z h0 x1 kS1) (Fcx1 : Fld Z h0 x1 kS1 "coder" "B" (.int 0)) (Fvx1 : Fld Z h0 x1 kS1 "value" "[B" (.ref t1)) (Vsx1 : Arv Z h0 t1 k1 .byte (4 : Int32) [(.int xs0), (.int xs1), (.int xs2), (.int xs3)] (.int 0)) (E1 : Exa Z h0 t1 "[B") (SZc : Sta Z Z.heap kS1 "COMPACT_STRINGS" "Z" (.int z0)) (hz0 : ¬ z0 = 0) (HC : OwnC Z q0 q1 q2) (hg0 : ¬ xs0 < 0) (hg1 : ¬ xs1 < 0) (hg2 : ¬ xs2 < 0) (hg3 : ¬ xs3 < 0) :
  OwnM l Z h0 (⟨kS1, "getBytes", "(Ljava/nio/charset/Charset;)[B"⟩ : MethodName) (Jvm.Cond.code (⟨kS1, "getBytes", "(Ljava/nio/charset/Charset;)[B"⟩ : MethodName) jdk_42_method_64_code 2 (some (.array .byte)) :: ws) (RM 3 1 4 48) #[(.ref x1), (.ref q0)] (Qrm_gbc4 Z q0 q1 q2 x1 t1 k1 xs0 xs1 xs2 xs3 z0 h0 n0) := by
 refine MetFree.of_bodySF (plainFor_of_name pn_0) hisR ?_
 intro p e s m args below meth c s₁ Bd hml0 hP hK
 obtain ⟨rfl, hZ, hh⟩ := hP
 have hx := Bd.exec
 have hby := Bd.bytes
 have hml : c.maxLocals = 2 := hml0
 have hown : s.vm.findClass kS1 = some m.cls := findClass_of_methodNamed Bd.named
 have hnm := (name_of_methodNamed Bd.named Bd.method).1
 have X0 : Stand p l e (RM 3 1 4 48) s m #[(.ref x1), (.ref q0)] below meth c s₁ [] 0 0 := Stand.of_body Bd
 have e0 : s₁.heap = h0 := by rw [← hh, Bd.state]; rfl
 have N0 := Fr.nil n0
 have pre0 : ∀ t, GO p e below s₁ (mkF m 0 #[.val (.ref x1), .val (.ref q0)] []) t → GO p e below s₁ (entryFrame m #[(.ref x1), (.ref q0)] 2) t := fun t k => castTop (ef_rm_gbc4 m x1 q0) k
 have lt_Esx1 := ltA Esx1.lt
 have lt_Fcx1 := ltA Fcx1.lt
 have lt_Fvx1 := ltA Fvx1.lt
 have lt_Vsx1 := ltA Vsx1.lt
 have lt_E1 := ltA E1.lt
 -- pc 14: String.coder by rm_sc
 obtain ⟨cq524, kq524, q524a, q524b, q524c⟩ := isOf hZ e0 Esx1
 obtain ⟨_, _, ⟨T524, L524, k524, n524⟩, -, X524, ⟨Lc524, hQ524, l524, y524, z524⟩, st524⟩ := X0.virtualBack hx (y := (⟨kS1, "coder", "()B"⟩ : MethodName)) (z := (⟨kS1, "coder", "()B"⟩ : MethodName)) hown (mvT hZ (wd hw 59 rfl)) (mvT hZ (wd hw 60 rfl)) (notFace_of_selects (args := #[]) (mvT hZ (wd hw 62 rfl))) (mvT hZ (wd hw 62 rfl)) (mvT hZ (wd hw 61 rfl)) (by decide) (backOf (W := 1) (rm_sc l Z a0 hw [] x1 z0 h0 n0 (by omega) O0 Fcx1 (by first | assumption | decide | omega) (by first | assumption | decide | omega)) hZ (wd hw 63 rfl) (wd hw 3 rfl) (by decide) (by decide)) q524a q524c (g := (mkF m 14 #[.val (.ref x1), .val (.ref q0)] [(.ref x1), (.ref q0)])) rfl (by rw [hml]; rfl) (Steps.refl _) (argsL := []) (rest := [(.ref q0)]) (lenOf pd_3 rfl) rfl (wz rfl) (hb hby d26_14) (fun _ _ => ⟨rfl, e0, (by decide : 0 + 0 ≤ _), (by decide : 0 + 0 ≤ _)⟩)
 dsimp only [Pt.U, Pt.locs, Pt.cells, Pt.slots] at X524 l524 y524 z524 st524 hQ524
 subst l524 y524 z524
 obtain ⟨rfl, N524q, e524⟩ := hQ524
 have N524 := Fr.app N0 N524q
 obtain ⟨T525, X525, e525, st525⟩ := getF X524 hx hZ hown (host := "") (Or.inl (wd hw 20 rfl)) Via.refl e524 Fvx1 (g := (mkF m 18 #[.val (.ref x1), .val (.ref q0)] [(.ref x1), (.int 0), (.ref q0)])) rfl rfl (hb hby d26_18)
 -- pc 21: String.encode by rm_enc4
 obtain ⟨_, _, ⟨T526, L526, k526, n526⟩, -, X526, ⟨Lc526, hQ526, l526, y526, z526⟩, st526⟩ := Jvm.LawKit.callS X525 hx (y := (⟨kS1, "encode", "(Ljava/nio/charset/Charset;B[B)[B"⟩ : MethodName)) hown (mvT hZ (wd hw 145 rfl)) (mvT hZ (wd hw 146 rfl)) (mvT hZ (wd hw 3 rfl)) (mvT hZ (wd hw 147 rfl)) (by decide) (backOf (W := 0) (rm_enc4 l Z a0 hw [] q0 q1 q2 t1 k1 xs0 xs1 xs2 xs3 h0 n0 (by omega) O0 E1 Vsx1 (by first | assumption | decide | omega) (by first | assumption | decide | omega) (by first | assumption | decide | omega) (by first | assumption | decide | omega) (by first | assumption | decide | omega)) hZ (wd hw 147 rfl) (wd hw 3 rfl) (by decide) (by decide)) (g := (mkF m 21 #[.val (.ref x1), .val (.ref q0)] [(.ref t1), (.int 0), (.ref q0)])) rfl (by rw [hml]; rfl) (argsL := [(.ref q0), (.int 0), (.ref t1)]) (rest := []) (lenOf pd_4 rfl) rfl (wz rfl) (hb hby d26_21) (fun _ _ => ⟨rfl, e525, (by decide : 0 + 1 ≤ _), (by decide : 0 + 4 ≤ _)⟩)
 dsimp only [Pt.U, Pt.locs, Pt.cells, Pt.slots] at X526 l526 y526 z526 st526 hQ526
 subst l526 y526 z526
 obtain ⟨h526, e526⟩ : ∃ z, T526.heap = z := ⟨_, rfl⟩
 rw [e526] at hQ526
 obtain ⟨t_526, k_526, rfl, N526q, K526, p526_0⟩ := hQ526
 have N526 := Fr.app N524 N526q
 have sz526 : h0.size ≤ h526.size := K526.1
 have lt526_0 := ltA p526_0.lt
 obtain ⟨fs, hr, hrun, hended, hW, hsame⟩ := X526.leave (v := some (.ref t_526)) (fun h => by rw [Bd.returns] at h; cases h)
 refine ⟨_, _, pre0 _ ?_, hrun, hended, _, _, rfl, ?_, ⟨_, rfl⟩, hW, hsame.mono (by decide) (by decide)⟩
 ·show GO p e below s₁ (mkF m 0 #[.val (.ref x1), .val (.ref q0)] []) _
  refine XS.aloadN X0.here hx rfl (hb hby d26_0) rfl rfl ?_
  show GO p e below s₁ (mkF m 1 #[.val (.ref x1), .val (.ref q0)] [(.ref q0)]) _
  refine XS.ifnonnullYes X0.here hx rfl (pc0 := 1) (pc' := 12) rfl (hb hby d26_1) rfl (by decide) (by decide) ?_
  show GO p e below s₁ (mkF m 12 #[.val (.ref x1), .val (.ref q0)] []) _
  refine XS.aloadN X0.here hx rfl (hb hby d26_12) rfl rfl ?_
  show GO p e below s₁ (mkF m 13 #[.val (.ref x1), .val (.ref q0)] [(.ref q0)]) _
  refine XS.aloadN X0.here hx rfl (hb hby d26_13) rfl rfl ?_
  show GO p e below s₁ (mkF m 14 #[.val (.ref x1), .val (.ref q0)] [(.ref x1), (.ref q0)]) _
  refine st524.trans ?_
  show GO p e below T524 (mkF m 17 #[.val (.ref x1), .val (.ref q0)] [(.int 0), (.ref q0)]) _
  refine XS.aloadN X524.here hx rfl (hb hby d26_17) rfl rfl ?_
  show GO p e below T524 (mkF m 18 #[.val (.ref x1), .val (.ref q0)] [(.ref x1), (.int 0), (.ref q0)]) _
  refine st525 _ ?_
  show GO p e below T525 (mkF m 21 #[.val (.ref x1), .val (.ref q0)] [(.ref t1), (.int 0), (.ref q0)]) _
  refine st526 _ ?_
  show GO p e below T526 (mkF m 24 #[.val (.ref x1), .val (.ref q0)] [(.ref t_526)]) _
  exact retOut X526 hx Bd.returns rfl (Or.inr (Or.inr (Or.inr (Or.inr ⟨rfl, rfl, rfl⟩)))) (hb hby d26_24) hr
 ·show Qrm_gbc4 Z q0 q1 q2 x1 t1 k1 xs0 xs1 xs2 xs3 z0 h0 n0 _ T526.heap _
  rw [e526]
  exact ⟨t_526, k_526, rfl, N526, ((Keep.refl h0 []).trans K526 all0), p526_0⟩
def Qrm_sl3 (Z : State) (x1 : Addr) (t1 : Addr) (k1 : ClassId) (xs0 : Int32) (xs1 : Int32) (xs2 : Int32) (z0 : Int32) (h0 : Heap) (n0 : Nat) (v : Option Value) (h : Heap) (L : List Loc) : Prop := v = some (.int 3) ∧ Fr n0 L ∧ h = h0
theorem ef_rm_sl3 (m : MethodId) (x0 : Addr) : entryFrame m #[(.ref x0)] 1 = mkF m 0 #[.val (.ref x0)] [] := by first | rfl | (simp [entryFrame, mkF, argsToLocals, Value.category]; done)
theorem rm_sl3 (l : Launch) (Z : State) (a0 : Array Value) (hw : HW Z a0) (ws : List Jvm.Cond) (x1 : Addr) (t1 : Addr) (k1 : ClassId) (xs0 : Int32) (xs1 : Int32) (xs2 : Int32) (z0 : Int32) (h0 : Heap) (n0 : Nat) (Z0 : n0 ≤ h0.size) (O0 : Old Z n0 h0) (Esx1 : Exa Z h0 x1 kS1) (Fcx1 : Fld Z h0 x1 kS1 "coder" "B" (.int 0)) (Fvx1 : Fld Z h0 x1 kS1 "value" "[B" (.ref t1)) (Vsx1 : Arv Z h0 t1 k1 .byte (3 : Int32) [(.int xs0), (.int xs1), (.int xs2)] (.int 0)) (SZc : Sta Z Z.heap kS1 "COMPACT_STRINGS" "Z" (.int z0)) (hz0 : ¬ z0 = 0) :
  OwnM l Z h0 (⟨kS1, "length", "()I"⟩ : MethodName) (Jvm.Cond.code (⟨kS1, "length", "()I"⟩ : MethodName) jdk_42_method_54_code 1 (some .int) :: ws) (RM 1 0 0 13) #[(.ref x1)] (Qrm_sl3 Z x1 t1 k1 xs0 xs1 xs2 z0 h0 n0) := by
 refine MetFree.of_bodySF (plainFor_of_name pn_0) hisR ?_
 intro p e s m args below meth c s₁ Bd hml0 hP hK
 obtain ⟨rfl, hZ, hh⟩ := hP
 have hx := Bd.exec
 have hby := Bd.bytes
 have hml : c.maxLocals = 1 := hml0
 have hown : s.vm.findClass kS1 = some m.cls := findClass_of_methodNamed Bd.named
 have hnm := (name_of_methodNamed Bd.named Bd.method).1
 have X0 : Stand p l e (RM 1 0 0 13) s m #[(.ref x1)] below meth c s₁ [] 0 0 := Stand.of_body Bd
 have e0 : s₁.heap = h0 := by rw [← hh, Bd.state]; rfl
 have N0 := Fr.nil n0
 have pre0 : ∀ t, GO p e below s₁ (mkF m 0 #[.val (.ref x1)] []) t → GO p e below s₁ (entryFrame m #[(.ref x1)] 1) t := fun t k => castTop (ef_rm_sl3 m x1) k
 have lt_Esx1 := ltA Esx1.lt
 have lt_Fcx1 := ltA Fcx1.lt
 have lt_Fvx1 := ltA Fvx1.lt
 have lt_Vsx1 := ltA Vsx1.lt
 obtain ⟨T527, X527, e527, st527⟩ := getF X0 hx hZ hown (host := "") (Or.inl (wd hw 20 rfl)) Via.refl e0 Fvx1 (g := (mkF m 1 #[.val (.ref x1)] [(.ref x1)])) rfl rfl (hb hby d9_1)
 obtain ⟨cl528, Ar528, -, S528, M528, -, -⟩ := id Vsx1
 -- pc 6: String.coder by rm_sc
 obtain ⟨cq529, kq529, q529a, q529b, q529c⟩ := isOf hZ e527 Esx1
 obtain ⟨_, _, ⟨T529, L529, k529, n529⟩, -, X529, ⟨Lc529, hQ529, l529, y529, z529⟩, st529⟩ := X527.virtualBack hx (y := (⟨kS1, "coder", "()B"⟩ : MethodName)) (z := (⟨kS1, "coder", "()B"⟩ : MethodName)) hown (mvT hZ (wd hw 59 rfl)) (mvT hZ (wd hw 60 rfl)) (notFace_of_selects (args := #[]) (mvT hZ (wd hw 62 rfl))) (mvT hZ (wd hw 62 rfl)) (mvT hZ (wd hw 61 rfl)) (by decide) (backOf (W := 1) (rm_sc l Z a0 hw [] x1 z0 h0 n0 (by omega) O0 Fcx1 (by first | assumption | decide | omega) (by first | assumption | decide | omega)) hZ (wd hw 63 rfl) (wd hw 3 rfl) (by decide) (by decide)) q529a q529c (g := (mkF m 6 #[.val (.ref x1)] [(.ref x1), (.int 3)])) rfl (by rw [hml]; rfl) (Steps.refl _) (argsL := []) (rest := [(.int 3)]) (lenOf pd_3 rfl) rfl (wz rfl) (hb hby d9_6) (fun _ _ => ⟨rfl, e527, (by decide : 0 + 0 ≤ _), (by decide : 0 + 0 ≤ _)⟩)
 dsimp only [Pt.U, Pt.locs, Pt.cells, Pt.slots] at X529 l529 y529 z529 st529 hQ529
 subst l529 y529 z529
 obtain ⟨rfl, N529q, e529⟩ := hQ529
 have N529 := Fr.app N0 N529q
 obtain ⟨fs, hr, hrun, hended, hW, hsame⟩ := X529.leave (v := some (.int 3)) (fun h => by rw [Bd.returns] at h; cases h)
 refine ⟨_, _, pre0 _ ?_, hrun, hended, _, _, rfl, ?_, ⟨_, rfl⟩, hW, hsame.mono (by decide) (by decide)⟩
 ·show GO p e below s₁ (mkF m 0 #[.val (.ref x1)] []) _
  refine XS.aloadN X0.here hx rfl (hb hby d9_0) rfl rfl ?_
  show GO p e below s₁ (mkF m 1 #[.val (.ref x1)] [(.ref x1)]) _
  refine st527 _ ?_
  show GO p e below T527 (mkF m 4 #[.val (.ref x1)] [(.ref t1)]) _
  refine X527.arraylength hx (by rw [e527]; exact Ar528.1) (State.isArrayOf_alike hZ.alike Ar528.2.1) (g := (mkF m 4 #[.val (.ref x1)] [(.ref t1)])) rfl rfl (hb hby d9_4) _ ?_
  rw [len_of S528 M528]
  show GO p e below T527 (mkF m 5 #[.val (.ref x1)] [(.int 3)]) _
  refine XS.aloadN X527.here hx rfl (hb hby d9_5) rfl rfl ?_
  show GO p e below T527 (mkF m 6 #[.val (.ref x1)] [(.ref x1), (.int 3)]) _
  refine st529.trans ?_
  show GO p e below T529 (mkF m 9 #[.val (.ref x1)] [(.int 0), (.int 3)]) _
  refine XS.ishr X529.here hx rfl (hb hby d9_9) rfl ?_
  rw [show ((3 : Int32) >>> ((0 : Int32) &&& 31)) = (3 : Int32) from by decide]
  show GO p e below T529 (mkF m 10 #[.val (.ref x1)] [(.int 3)]) _
  exact retI X529 hx Bd.returns (hb hby d9_10) hr
 ·show Qrm_sl3 Z x1 t1 k1 xs0 xs1 xs2 z0 h0 n0 _ T529.heap _
  rw [e529]
  exact ⟨rfl, N529, rfl⟩
def Qrm_gb_3_0_16 (Z : State) (x1 : Addr) (t1 : Addr) (k1 : ClassId) (xs0 : Int32) (xs1 : Int32) (xs2 : Int32) (d1 : Addr) (kd : ClassId) (z0 : Int32) (h0 : Heap) (n0 : Nat) (v : Option Value) (h : Heap) (L : List Loc) : Prop := v = none ∧ Fr n0 L ∧ Keep h0 h [d1] ∧ Arv Z h d1 kd .byte (16 : Int32) [(.int xs0), (.int xs1), (.int xs2), (.int 0), (.int 0), (.int 0), (.int 0), (.int 0), (.int 0), (.int 0), (.int 0), (.int 0), (.int 0), (.int 0), (.int 0), (.int 0)] (.int 0)
theorem ef_rm_gb_3_0_16 (m : MethodId) (x0 : Addr) (x1 : Addr) (x2 : Int32) (x3 : Int32) : entryFrame m #[(.ref x0), (.ref x1), (.int x2), (.int x3)] 4 = mkF m 0 (la10 x0 x1 x2 x3) [] := by first | rfl | (simp [entryFrame, mkF, argsToLocals, Value.category]; done)
theorem rm_gb_3_0_16 (l : Launch) (Z : State) (a0 : Array Value) (hw : HW Z a0) (ws : List Jvm.Cond) (x1 : Addr) (t1 : Addr) (k1 : ClassId) (xs0 : Int32) (xs1 : Int32) (xs2 : Int32) (d1 : Addr) (kd : ClassId) (z0 : Int32) (h0 : Heap) (n0 : Nat) (Z0 : n0 ≤ h0.size) (O0 : Old Z n0 h0) (Esx1 : Exa Z h0 x1 kS1) (Fcx1 : Fld Z h0 x1 kS1 "coder" "B" (.int 0)) (Fvx1 : Fld Z h0 x1 kS1 "value" "[B" (.ref t1)) (Vsx1 : Arv Z h0 t1 k1 .byte (3 : Int32) [(.int xs0), (.int xs1), (.int xs2)] (.int 0)) (Vd : Arv Z h0 d1 kd .byte (16 : Int32) [(.int 0), (.int 0), (.int 0), (.int 0), (.int 0), (.int 0), (.int 0), (.int 0), (.int 0), (.int 0), (.int 0), (.int 0), (.int 0), (.int 0), (.int 0), (.int 0)] (.int 0)) (SZc : Sta Z Z.heap kS1 "COMPACT_STRINGS" "Z" (.int z0)) (hz0 : ¬ z0 = 0) (gd : n0 ≤ d1) (ned : t1 ≠ d1) :
  OwnM l Z h0 (⟨kS1, "getBytes", "([BIB)V"⟩ : MethodName) (Jvm.Cond.code (⟨kS1, "getBytes", "([BIB)V"⟩ : MethodName) jdk_42_method_147_code 4 none :: ws) (RM 1 0 0 18) #[(.ref x1), (.ref d1), (.int 0), (.int 0)] (Qrm_gb_3_0_16 Z x1 t1 k1 xs0 xs1 xs2 d1 kd z0 h0 n0) := by
 refine MetFree.of_bodySF (plainFor_of_name pn_0) hisR ?_
 intro p e s m args below meth c s₁ Bd hml0 hP hK
 obtain ⟨rfl, hZ, hh⟩ := hP
 have hx := Bd.exec
 have hby := Bd.bytes
 have hml : c.maxLocals = 4 := hml0
 have hown : s.vm.findClass kS1 = some m.cls := findClass_of_methodNamed Bd.named
 have hnm := (name_of_methodNamed Bd.named Bd.method).1
 have X0 : Stand p l e (RM 1 0 0 18) s m #[(.ref x1), (.ref d1), (.int 0), (.int 0)] below meth c s₁ [] 0 0 := Stand.of_body Bd
 have e0 : s₁.heap = h0 := by rw [← hh, Bd.state]; rfl
 have N0 := Fr.nil n0
 have pre0 : ∀ t, GO p e below s₁ (mkF m 0 (la10 x1 d1 (0 : Int32) (0 : Int32)) []) t → GO p e below s₁ (entryFrame m #[(.ref x1), (.ref d1), (.int 0), (.int 0)] 4) t := fun t k => castTop (ef_rm_gb_3_0_16 m x1 d1 ((0 : Int32)) ((0 : Int32))) k
 have lt_Esx1 := ltA Esx1.lt
 have lt_Fcx1 := ltA Fcx1.lt
 have lt_Fvx1 := ltA Fvx1.lt
 have lt_Vsx1 := ltA Vsx1.lt
 have lt_Vd := ltA Vd.lt
 -- pc 1: String.coder by rm_sc
 obtain ⟨cq530, kq530, q530a, q530b, q530c⟩ := isOf hZ e0 Esx1
 obtain ⟨_, _, ⟨T530, L530, k530, n530⟩, -, X530, ⟨Lc530, hQ530, l530, y530, z530⟩, st530⟩ := X0.virtualBack hx (y := (⟨kS1, "coder", "()B"⟩ : MethodName)) (z := (⟨kS1, "coder", "()B"⟩ : MethodName)) hown (mvT hZ (wd hw 59 rfl)) (mvT hZ (wd hw 60 rfl)) (notFace_of_selects (args := #[]) (mvT hZ (wd hw 62 rfl))) (mvT hZ (wd hw 62 rfl)) (mvT hZ (wd hw 61 rfl)) (by decide) (backOf (W := 0) (rm_sc l Z a0 hw [] x1 z0 h0 n0 (by omega) O0 Fcx1 (by first | assumption | decide | omega) (by first | assumption | decide | omega)) hZ (wd hw 63 rfl) (wd hw 3 rfl) (by decide) (by decide)) q530a q530c (g := (mkF m 1 (la10 x1 d1 (0 : Int32) (0 : Int32)) [(.ref x1)])) rfl (by rw [hml]; rfl) (Steps.refl _) (argsL := []) (rest := []) (lenOf pd_3 rfl) rfl (wz rfl) (hb hby d14_1) (fun _ _ => ⟨rfl, e0, (by decide : 0 + 0 ≤ _), (by decide : 0 + 0 ≤ _)⟩)
 dsimp only [Pt.U, Pt.locs, Pt.cells, Pt.slots] at X530 l530 y530 z530 st530 hQ530
 subst l530 y530 z530
 obtain ⟨rfl, N530q, e530⟩ := hQ530
 have N530 := Fr.app N0 N530q
 obtain ⟨T531, X531, e531, st531⟩ := getF X530 hx hZ hown (host := "") (Or.inl (wd hw 20 rfl)) Via.refl e530 Fvx1 (g := (mkF m 9 (la10 x1 d1 (0 : Int32) (0 : Int32)) [(.ref x1)])) rfl rfl (hb hby d14_9)
 obtain ⟨T532, X532, e532, st532⟩ := getF X531 hx hZ hown (host := "") (Or.inl (wd hw 20 rfl)) Via.refl e531 Fvx1 (g := (mkF m 18 (la10 x1 d1 (0 : Int32) (0 : Int32)) [(.ref x1), (.int 0), (.ref d1), (.int 0), (.ref t1)])) rfl rfl (hb hby d14_18)
 obtain ⟨cl533, Ar533, -, S533, M533, -, -⟩ := id Vsx1
 obtain ⟨T534, h534, L534, X534, e534, N534, K534, A534, st534⟩ := cpA X532 hx hZ hown (wd hw 88 rfl) (wd hw 91 rfl) (wd hw 89 rfl) (wd hw 90 rfl) e532 Vsx1 Vd (us := [(.int xs0), (.int xs1), (.int xs2)]) (Or.inl ⟨rfl, rfl⟩) (by decide) (by decide) (by decide) (by decide) (by decide) rfl (Nat.le_of_ble_eq_true rfl) N530 (by omega) (g := (mkF m 22 (la10 x1 d1 (0 : Int32) (0 : Int32)) [(.int 3), (.int 0), (.ref d1), (.int 0), (.ref t1)])) rfl (by rw [hml]; rfl) rfl (hb hby d14_22) (by decide) (W := 0) (wz rfl) (by decide)
 have sz534 : h0.size ≤ h534.size := K534.1
 have V534 : Arv Z h534 d1 kd .byte (16 : Int32) [(.int xs0), (.int xs1), (.int xs2), (.int 0), (.int 0), (.int 0), (.int 0), (.int 0), (.int 0), (.int 0), (.int 0), (.int 0), (.int 0), (.int 0), (.int 0), (.int 0)] (.int 0) := A534
 obtain ⟨fs, hr, hrun, hended, hW, hsame⟩ := X534.leave (v := none) (fun _ => rfl)
 refine ⟨_, _, pre0 _ ?_, hrun, hended, _, _, rfl, ?_, ⟨_, rfl⟩, hW, hsame.mono (by decide) (by decide)⟩
 ·show GO p e below s₁ (mkF m 0 (la10 x1 d1 (0 : Int32) (0 : Int32)) []) _
  refine XS.aloadN X0.here hx rfl (hb hby d14_0) rfl rfl ?_
  show GO p e below s₁ (mkF m 1 (la10 x1 d1 (0 : Int32) (0 : Int32)) [(.ref x1)]) _
  refine st530.trans ?_
  show GO p e below T530 (mkF m 4 (la10 x1 d1 (0 : Int32) (0 : Int32)) [(.int 0)]) _
  refine XS.iloadN X530.here hx rfl (hb hby d14_4) rfl ?_
  show GO p e below T530 (mkF m 5 (la10 x1 d1 (0 : Int32) (0 : Int32)) [(.int 0), (.int 0)]) _
  refine XS.icmpNo X530.here hx rfl (hb hby d14_5) rfl (teq (rfl : (0 : Int32) = (0 : Int32))).2 ?_
  show GO p e below T530 (mkF m 8 (la10 x1 d1 (0 : Int32) (0 : Int32)) []) _
  refine XS.aloadN X530.here hx rfl (hb hby d14_8) rfl rfl ?_
  show GO p e below T530 (mkF m 9 (la10 x1 d1 (0 : Int32) (0 : Int32)) [(.ref x1)]) _
  refine st531 _ ?_
  show GO p e below T531 (mkF m 12 (la10 x1 d1 (0 : Int32) (0 : Int32)) [(.ref t1)]) _
  refine XS.iconst X531.here hx rfl (hb hby d14_12) ?_
  show GO p e below T531 (mkF m 13 (la10 x1 d1 (0 : Int32) (0 : Int32)) [(.int 0), (.ref t1)]) _
  refine XS.aloadN X531.here hx rfl (hb hby d14_13) rfl rfl ?_
  show GO p e below T531 (mkF m 14 (la10 x1 d1 (0 : Int32) (0 : Int32)) [(.ref d1), (.int 0), (.ref t1)]) _
  refine XS.iloadN X531.here hx rfl (hb hby d14_14) rfl ?_
  show GO p e below T531 (mkF m 15 (la10 x1 d1 (0 : Int32) (0 : Int32)) [(.int 0), (.ref d1), (.int 0), (.ref t1)]) _
  refine XS.iloadN X531.here hx rfl (hb hby d14_15) rfl ?_
  show GO p e below T531 (mkF m 16 (la10 x1 d1 (0 : Int32) (0 : Int32)) [(.int 0), (.int 0), (.ref d1), (.int 0), (.ref t1)]) _
  refine XS.ishl X531.here hx rfl (hb hby d14_16) rfl ?_
  rw [show ((0 : Int32) <<< ((0 : Int32) &&& 31)) = (0 : Int32) from by decide]
  show GO p e below T531 (mkF m 17 (la10 x1 d1 (0 : Int32) (0 : Int32)) [(.int 0), (.ref d1), (.int 0), (.ref t1)]) _
  refine XS.aloadN X531.here hx rfl (hb hby d14_17) rfl rfl ?_
  show GO p e below T531 (mkF m 18 (la10 x1 d1 (0 : Int32) (0 : Int32)) [(.ref x1), (.int 0), (.ref d1), (.int 0), (.ref t1)]) _
  refine st532 _ ?_
  show GO p e below T532 (mkF m 21 (la10 x1 d1 (0 : Int32) (0 : Int32)) [(.ref t1), (.int 0), (.ref d1), (.int 0), (.ref t1)]) _
  refine X532.arraylength hx (by rw [e532]; exact Ar533.1) (State.isArrayOf_alike hZ.alike Ar533.2.1) (g := (mkF m 21 (la10 x1 d1 (0 : Int32) (0 : Int32)) [(.ref t1), (.int 0), (.ref d1), (.int 0), (.ref t1)])) rfl rfl (hb hby d14_21) _ ?_
  rw [len_of S533 M533]
  show GO p e below T532 (mkF m 22 (la10 x1 d1 (0 : Int32) (0 : Int32)) [(.int 3), (.int 0), (.ref d1), (.int 0), (.ref t1)]) _
  refine st534 _ ?_
  show GO p e below T534 (mkF m 25 (la10 x1 d1 (0 : Int32) (0 : Int32)) []) _
  refine XS.goto X534.here hx rfl (pc0 := 25) (pc' := 43) rfl (hb hby d14_25) (by decide) (by decide) ?_
  show GO p e below T534 (mkF m 43 (la10 x1 d1 (0 : Int32) (0 : Int32)) []) _
  exact X534.returnOut hx Bd.returns (hb hby d14_43) hr
 ·show Qrm_gb_3_0_16 Z x1 t1 k1 xs0 xs1 xs2 d1 kd z0 h0 n0 _ T534.heap _
  rw [e534]
  exact ⟨rfl, N534, ((Keep.refl h0 [d1]).trans K534 (allS (P := fun x => x ∈ _ ∨ _) (Or.inl (List.mem_of_getElem? (i := 0) rfl)) all0)), V534⟩
def Qrm_ps_3_0_16 (Z : State) (x1 : Addr) (t1 : Addr) (k1 : ClassId) (xs0 : Int32) (xs1 : Int32) (xs2 : Int32) (a1 : Addr) (d1 : Addr) (kd : ClassId) (z0 : Int32) (h0 : Heap) (n0 : Nat) (v : Option Value) (h : Heap) (L : List Loc) : Prop := v = none ∧ Fr n0 L ∧ Keep h0 h [d1] ∧ Arv Z h d1 kd .byte (16 : Int32) [(.int xs0), (.int xs1), (.int xs2), (.int 0), (.int 0), (.int 0), (.int 0), (.int 0), (.int 0), (.int 0), (.int 0), (.int 0), (.int 0), (.int 0), (.int 0), (.int 0)] (.int 0)
theorem ef_rm_ps_3_0_16 (m : MethodId) (x0 : Addr) (x1 : Int32) (x2 : Addr) : entryFrame m #[(.ref x0), (.int x1), (.ref x2)] 3 = mkF m 0 (la7 x0 x1 x2) [] := by first | rfl | (simp [entryFrame, mkF, argsToLocals, Value.category]; done)
theorem rm_ps_3_0_16 (l : Launch) (Z : State) (a0 : Array Value) (hw : HW Z a0) (ws : List Jvm.Cond) (x1 : Addr) (t1 : Addr) (k1 : ClassId) (xs0 : Int32) (xs1 : Int32) (xs2 : Int32) (a1 : Addr) (d1 : Addr) (kd : ClassId) (z0 : Int32) (h0 : Heap) (n0 : Nat) (Z0 : n0 ≤ h0.size) (O0 : Old Z n0 h0) (Esx1 : Exa Z h0 x1 kS1) (Fcx1 : Fld Z h0 x1 kS1 "coder" "B" (.int 0)) (Fvx1 : Fld Z h0 x1 kS1 "value" "[B" (.ref t1)) (Vsx1 : Arv Z h0 t1 k1 .byte (3 : Int32) [(.int xs0), (.int xs1), (.int xs2)] (.int 0)) (Eb : Exa Z h0 a1 kS2) (Fbv : Fld Z h0 a1 kS0 "value" "[B" (.ref d1)) (Fbc : Fld Z h0 a1 kS0 "coder" "B" (.int 0)) (Fbn : Fld Z h0 a1 kS0 "count" "I" (.int 0)) (Vb : Arv Z h0 d1 kd .byte (16 : Int32) [(.int 0), (.int 0), (.int 0), (.int 0), (.int 0), (.int 0), (.int 0), (.int 0), (.int 0), (.int 0), (.int 0), (.int 0), (.int 0), (.int 0), (.int 0), (.int 0)] (.int 0)) (SZc : Sta Z Z.heap kS1 "COMPACT_STRINGS" "Z" (.int z0)) (hz0 : ¬ z0 = 0) (gd : n0 ≤ d1) (ned : t1 ≠ d1) :
  OwnM l Z h0 (⟨kS0, "putStringAt", "(ILjava/lang/String;)V"⟩ : MethodName) (Jvm.Cond.code (⟨kS0, "putStringAt", "(ILjava/lang/String;)V"⟩ : MethodName) jdk_68_method_73_code 3 none :: ws) (RM 2 0 0 33) #[(.ref a1), (.int 0), (.ref x1)] (Qrm_ps_3_0_16 Z x1 t1 k1 xs0 xs1 xs2 a1 d1 kd z0 h0 n0) := by
 refine MetFree.of_bodySF (plainFor_of_name pn_2) hisR ?_
 intro p e s m args below meth c s₁ Bd hml0 hP hK
 obtain ⟨rfl, hZ, hh⟩ := hP
 have hx := Bd.exec
 have hby := Bd.bytes
 have hml : c.maxLocals = 3 := hml0
 have hown : s.vm.findClass kS0 = some m.cls := findClass_of_methodNamed Bd.named
 have hnm := (name_of_methodNamed Bd.named Bd.method).1
 have X0 : Stand p l e (RM 2 0 0 33) s m #[(.ref a1), (.int 0), (.ref x1)] below meth c s₁ [] 0 0 := Stand.of_body Bd
 have e0 : s₁.heap = h0 := by rw [← hh, Bd.state]; rfl
 have N0 := Fr.nil n0
 have pre0 : ∀ t, GO p e below s₁ (mkF m 0 (la7 a1 (0 : Int32) x1) []) t → GO p e below s₁ (entryFrame m #[(.ref a1), (.int 0), (.ref x1)] 3) t := fun t k => castTop (ef_rm_ps_3_0_16 m a1 ((0 : Int32)) x1) k
 have lt_Esx1 := ltA Esx1.lt
 have lt_Fcx1 := ltA Fcx1.lt
 have lt_Fvx1 := ltA Fvx1.lt
 have lt_Vsx1 := ltA Vsx1.lt
 have lt_Eb := ltA Eb.lt
 have lt_Fbv := ltA Fbv.lt
 have lt_Fbc := ltA Fbc.lt
 have lt_Fbn := ltA Fbn.lt
 have lt_Vb := ltA Vb.lt
 -- pc 2: AbstractStringBuilder.inflateIfNeededFor by rm_inf
 obtain ⟨cq535, q535a, q535b⟩ := Eb.cell
 obtain ⟨_, _, ⟨T535, L535, k535, n535⟩, -, X535, ⟨Lc535, hQ535, l535, y535, z535⟩, st535⟩ := X0.privateBack hx (y := (⟨kS0, "inflateIfNeededFor", "(Ljava/lang/String;)V"⟩ : MethodName)) hown (mvT hZ (wd hw 77 rfl)) (mvT hZ (wd hw 78 rfl)) (mvT hZ (own_selfsel (wd hw 80 rfl) (wd hw 79 rfl) (wd hw 78 rfl) (by decide))) (Cond.privateMethod_at (mvP hZ (wd hw 79 rfl) (args := #[]))) (mvT hZ (wd hw 81 rfl)) (by decide) (backOf (W := 0) (rm_inf l Z a0 hw [] a1 x1 z0 h0 n0 (by omega) O0 Fbc Esx1 Fcx1 (by first | assumption | decide | omega) (by first | assumption | decide | omega)) hZ (wd hw 81 rfl) (wd hw 36 rfl) (by decide) (by decide)) (g := (mkF m 2 (la7 a1 (0 : Int32) x1) [(.ref x1), (.ref a1)])) rfl (by rw [hml]; rfl) (Steps.refl _) (a := a1) (by rw [e0]; exact q535a) q535b (argsL := [(.ref x1)]) (rest := []) (lenOf pd_6 rfl) rfl (wz rfl) (hb hby d12_2) (fun _ _ => ⟨rfl, e0, (by decide : 0 + 0 ≤ _), (by decide : 0 + 0 ≤ _)⟩)
 dsimp only [Pt.U, Pt.locs, Pt.cells, Pt.slots] at X535 l535 y535 z535 st535 hQ535
 subst l535 y535 z535
 obtain ⟨rfl, N535q, e535⟩ := hQ535
 have N535 := Fr.app N0 N535q
 obtain ⟨T536, X536, e536, st536⟩ := getF X535 hx hZ hown (host := "") (Or.inl (wd hw 40 rfl)) Via.refl e535 Fbv (g := (mkF m 7 (la7 a1 (0 : Int32) x1) [(.ref a1), (.ref x1)])) rfl rfl (hb hby d12_7)
 obtain ⟨T537, X537, e537, st537⟩ := getF X536 hx hZ hown (host := "") (Or.inl (wd hw 42 rfl)) Via.refl e536 Fbc (g := (mkF m 12 (la7 a1 (0 : Int32) x1) [(.ref a1), (.int 0), (.ref d1), (.ref x1)])) rfl rfl (hb hby d12_12)
 -- pc 15: String.getBytes by rm_gb_3_0_16
 obtain ⟨cq538, kq538, q538a, q538b, q538c⟩ := isOf hZ e537 Esx1
 obtain ⟨_, _, ⟨T538, L538, k538, n538⟩, -, X538, ⟨Lc538, hQ538, l538, y538, z538⟩, st538⟩ := X537.virtualBack hx (y := (⟨kS1, "getBytes", "([BIB)V"⟩ : MethodName)) (z := (⟨kS1, "getBytes", "([BIB)V"⟩ : MethodName)) hown (mvT hZ (wd hw 83 rfl)) (mvT hZ (wd hw 84 rfl)) (notFace_of_selects (args := #[]) (mvT hZ (wd hw 86 rfl))) (mvT hZ (wd hw 86 rfl)) (mvT hZ (wd hw 85 rfl)) (by decide) (backOf (W := 0) (rm_gb_3_0_16 l Z a0 hw [] x1 t1 k1 xs0 xs1 xs2 d1 kd z0 h0 n0 (by omega) O0 Esx1 Fcx1 Fvx1 Vsx1 Vb (by first | assumption | decide | omega) (by first | assumption | decide | omega) (by first | assumption | decide | omega) ned) hZ (wd hw 87 rfl) (wd hw 3 rfl) (by decide) (by decide)) q538a q538c (g := (mkF m 15 (la7 a1 (0 : Int32) x1) [(.int 0), (.int 0), (.ref d1), (.ref x1)])) rfl (by rw [hml]; rfl) (Steps.refl _) (argsL := [(.ref d1), (.int 0), (.int 0)]) (rest := []) (lenOf pd_7 rfl) rfl (wz rfl) (hb hby d12_15) (fun _ _ => ⟨rfl, e537, (by decide : 0 + 0 ≤ _), (by decide : 0 + 0 ≤ _)⟩)
 dsimp only [Pt.U, Pt.locs, Pt.cells, Pt.slots] at X538 l538 y538 z538 st538 hQ538
 subst l538 y538 z538
 obtain ⟨h538, e538⟩ : ∃ z, T538.heap = z := ⟨_, rfl⟩
 rw [e538] at hQ538
 obtain ⟨rfl, N538q, K538, p538_0⟩ := hQ538
 have N538 := Fr.app N535 N538q
 have sz538 : h0.size ≤ h538.size := K538.1
 have lt538_0 := ltA p538_0.lt
 obtain ⟨fs, hr, hrun, hended, hW, hsame⟩ := X538.leave (v := none) (fun _ => rfl)
 refine ⟨_, _, pre0 _ ?_, hrun, hended, _, _, rfl, ?_, ⟨_, rfl⟩, hW, hsame.mono (by decide) (by decide)⟩
 ·show GO p e below s₁ (mkF m 0 (la7 a1 (0 : Int32) x1) []) _
  refine XS.aloadN X0.here hx rfl (hb hby d12_0) rfl rfl ?_
  show GO p e below s₁ (mkF m 1 (la7 a1 (0 : Int32) x1) [(.ref a1)]) _
  refine XS.aloadN X0.here hx rfl (hb hby d12_1) rfl rfl ?_
  show GO p e below s₁ (mkF m 2 (la7 a1 (0 : Int32) x1) [(.ref x1), (.ref a1)]) _
  refine st535.trans ?_
  show GO p e below T535 (mkF m 5 (la7 a1 (0 : Int32) x1) []) _
  refine XS.aloadN X535.here hx rfl (hb hby d12_5) rfl rfl ?_
  show GO p e below T535 (mkF m 6 (la7 a1 (0 : Int32) x1) [(.ref x1)]) _
  refine XS.aloadN X535.here hx rfl (hb hby d12_6) rfl rfl ?_
  show GO p e below T535 (mkF m 7 (la7 a1 (0 : Int32) x1) [(.ref a1), (.ref x1)]) _
  refine st536 _ ?_
  show GO p e below T536 (mkF m 10 (la7 a1 (0 : Int32) x1) [(.ref d1), (.ref x1)]) _
  refine XS.iloadN X536.here hx rfl (hb hby d12_10) rfl ?_
  show GO p e below T536 (mkF m 11 (la7 a1 (0 : Int32) x1) [(.int 0), (.ref d1), (.ref x1)]) _
  refine XS.aloadN X536.here hx rfl (hb hby d12_11) rfl rfl ?_
  show GO p e below T536 (mkF m 12 (la7 a1 (0 : Int32) x1) [(.ref a1), (.int 0), (.ref d1), (.ref x1)]) _
  refine st537 _ ?_
  show GO p e below T537 (mkF m 15 (la7 a1 (0 : Int32) x1) [(.int 0), (.int 0), (.ref d1), (.ref x1)]) _
  refine st538.trans ?_
  show GO p e below T538 (mkF m 18 (la7 a1 (0 : Int32) x1) []) _
  exact X538.returnOut hx Bd.returns (hb hby d12_18) hr
 ·show Qrm_ps_3_0_16 Z x1 t1 k1 xs0 xs1 xs2 a1 d1 kd z0 h0 n0 _ T538.heap _
  rw [e538]
  exact ⟨rfl, N538, ((Keep.refl h0 [d1]).trans K538 (allS (P := fun x => x ∈ _ ∨ _) (Or.inl (List.mem_of_getElem? (i := 0) rfl)) all0)), p538_0⟩
def Qrm_aa_3_0_16 (Z : State) (x1 : Addr) (t1 : Addr) (k1 : ClassId) (xs0 : Int32) (xs1 : Int32) (xs2 : Int32) (a1 : Addr) (d1 : Addr) (kd : ClassId) (z0 : Int32) (h0 : Heap) (n0 : Nat) (v : Option Value) (h : Heap) (L : List Loc) : Prop := v = some (.ref a1) ∧ Fr n0 L ∧ Keep h0 h [a1, d1] ∧ Exa Z h a1 kS2 ∧ Fld Z h a1 kS0 "value" "[B" (.ref d1) ∧ Fld Z h a1 kS0 "coder" "B" (.int 0) ∧ Fld Z h a1 kS0 "count" "I" (.int 3) ∧ Arv Z h d1 kd .byte (16 : Int32) [(.int xs0), (.int xs1), (.int xs2), (.int 0), (.int 0), (.int 0), (.int 0), (.int 0), (.int 0), (.int 0), (.int 0), (.int 0), (.int 0), (.int 0), (.int 0), (.int 0)] (.int 0)
theorem ef_rm_aa_3_0_16 (m : MethodId) (x0 : Addr) (x1 : Addr) : entryFrame m #[(.ref x0), (.ref x1)] 3 = mkF m 0 (la11 x0 x1) [] := by first | rfl | (simp [entryFrame, mkF, argsToLocals, Value.category]; done)
theorem rm_aa_3_0_16 (l : Launch) (Z : State) (a0 : Array Value) (hw : HW Z a0) (ws : List Jvm.Cond) (x1 : Addr) (t1 : Addr) (k1 : ClassId) (xs0 : Int32) (xs1 : Int32) (xs2 : Int32) (a1 : Addr) (d1 : Addr) (kd : ClassId) (z0 : Int32) (h0 : Heap) (n0 : Nat) (Z0 : n0 ≤ h0.size) (O0 : Old Z n0 h0) (Esx1 : Exa Z h0 x1 kS1) (Fcx1 : Fld Z h0 x1 kS1 "coder" "B" (.int 0)) (Fvx1 : Fld Z h0 x1 kS1 "value" "[B" (.ref t1)) (Vsx1 : Arv Z h0 t1 k1 .byte (3 : Int32) [(.int xs0), (.int xs1), (.int xs2)] (.int 0)) (Eb : Exa Z h0 a1 kS2) (Fbv : Fld Z h0 a1 kS0 "value" "[B" (.ref d1)) (Fbc : Fld Z h0 a1 kS0 "coder" "B" (.int 0)) (Fbn : Fld Z h0 a1 kS0 "count" "I" (.int 0)) (Vb : Arv Z h0 d1 kd .byte (16 : Int32) [(.int 0), (.int 0), (.int 0), (.int 0), (.int 0), (.int 0), (.int 0), (.int 0), (.int 0), (.int 0), (.int 0), (.int 0), (.int 0), (.int 0), (.int 0), (.int 0)] (.int 0)) (SZc : Sta Z Z.heap kS1 "COMPACT_STRINGS" "Z" (.int z0)) (hz0 : ¬ z0 = 0) (ga : n0 ≤ a1) (gd : n0 ≤ d1) (ned : t1 ≠ d1) :
  OwnM l Z h0 (⟨kS0, "append", kS3⟩ : MethodName) (Jvm.Cond.code (⟨kS0, "append", kS3⟩ : MethodName) jdk_68_method_22_code 3 (some (.object kS0)) :: ws) (RM 3 0 0 47) #[(.ref a1), (.ref x1)] (Qrm_aa_3_0_16 Z x1 t1 k1 xs0 xs1 xs2 a1 d1 kd z0 h0 n0) := by
 refine MetFree.of_bodySF (plainFor_of_name pn_2) hisR ?_
 intro p e s m args below meth c s₁ Bd hml0 hP hK
 obtain ⟨rfl, hZ, hh⟩ := hP
 have hx := Bd.exec
 have hby := Bd.bytes
 have hml : c.maxLocals = 3 := hml0
 have hown : s.vm.findClass kS0 = some m.cls := findClass_of_methodNamed Bd.named
 have hnm := (name_of_methodNamed Bd.named Bd.method).1
 have X0 : Stand p l e (RM 3 0 0 47) s m #[(.ref a1), (.ref x1)] below meth c s₁ [] 0 0 := Stand.of_body Bd
 have e0 : s₁.heap = h0 := by rw [← hh, Bd.state]; rfl
 have N0 := Fr.nil n0
 have pre0 : ∀ t, GO p e below s₁ (mkF m 0 (la11 a1 x1) []) t → GO p e below s₁ (entryFrame m #[(.ref a1), (.ref x1)] 3) t := fun t k => castTop (ef_rm_aa_3_0_16 m a1 x1) k
 have lt_Esx1 := ltA Esx1.lt
 have lt_Fcx1 := ltA Fcx1.lt
 have lt_Fvx1 := ltA Fvx1.lt
 have lt_Vsx1 := ltA Vsx1.lt
 have lt_Eb := ltA Eb.lt
 have lt_Fbv := ltA Fbv.lt
 have lt_Fbc := ltA Fbc.lt
 have lt_Fbn := ltA Fbn.lt
 have lt_Vb := ltA Vb.lt
 -- pc 10: String.length by rm_sl3
 obtain ⟨cq539, kq539, q539a, q539b, q539c⟩ := isOf hZ e0 Esx1
 obtain ⟨_, _, ⟨T539, L539, k539, n539⟩, -, X539, ⟨Lc539, hQ539, l539, y539, z539⟩, st539⟩ := X0.virtualBack hx (y := (⟨kS1, "length", "()I"⟩ : MethodName)) (z := (⟨kS1, "length", "()I"⟩ : MethodName)) hown (mvT hZ (wd hw 54 rfl)) (mvT hZ (wd hw 55 rfl)) (notFace_of_selects (args := #[]) (mvT hZ (wd hw 57 rfl))) (mvT hZ (wd hw 57 rfl)) (mvT hZ (wd hw 56 rfl)) (by decide) (backOf (W := 0) (rm_sl3 l Z a0 hw [] x1 t1 k1 xs0 xs1 xs2 z0 h0 n0 (by omega) O0 Esx1 Fcx1 Fvx1 Vsx1 (by first | assumption | decide | omega) (by first | assumption | decide | omega)) hZ (wd hw 58 rfl) (wd hw 3 rfl) (by decide) (by decide)) q539a q539c (g := (mkF m 10 (la11 a1 x1) [(.ref x1)])) rfl (by rw [hml]; rfl) (Steps.refl _) (argsL := []) (rest := []) (lenOf pd_8 rfl) rfl (wz rfl) (hb hby d8_10) (fun _ _ => ⟨rfl, e0, (by decide : 0 + 0 ≤ _), (by decide : 0 + 0 ≤ _)⟩)
 dsimp only [Pt.U, Pt.locs, Pt.cells, Pt.slots] at X539 l539 y539 z539 st539 hQ539
 subst l539 y539 z539
 obtain ⟨rfl, N539q, e539⟩ := hQ539
 have N539 := Fr.app N0 N539q
 obtain ⟨T540, X540, e540, st540⟩ := getF X539 hx hZ hown (host := "") (Or.inl (wd hw 65 rfl)) Via.refl e539 Fbn (g := (mkF m 16 (la12 a1 x1 (3 : Int32)) [(.ref a1), (.ref a1)])) rfl rfl (hb hby d8_16)
 -- pc 21: AbstractStringBuilder.ensureCapacityInternal by rm_en_16
 obtain ⟨cq541, q541a, q541b⟩ := Eb.cell
 obtain ⟨_, _, ⟨T541, L541, k541, n541⟩, -, X541, ⟨Lc541, hQ541, l541, y541, z541⟩, st541⟩ := X540.privateBack hx (y := (⟨kS0, "ensureCapacityInternal", "(I)V"⟩ : MethodName)) hown (mvT hZ (wd hw 67 rfl)) (mvT hZ (wd hw 68 rfl)) (mvT hZ (own_selfsel (wd hw 70 rfl) (wd hw 69 rfl) (wd hw 68 rfl) (by decide))) (Cond.privateMethod_at (mvP hZ (wd hw 69 rfl) (args := #[]))) (mvT hZ (wd hw 71 rfl)) (by decide) (backOf (W := 0) (rm_en_16 l Z a0 hw [] a1 d1 kd ([(.int 0), (.int 0), (.int 0), (.int 0), (.int 0), (.int 0), (.int 0), (.int 0), (.int 0), (.int 0), (.int 0), (.int 0), (.int 0), (.int 0), (.int 0), (.int 0)]) (3 : Int32) h0 n0 (by omega) Fbv Fbc Vb (by decide)) hZ (wd hw 71 rfl) (wd hw 36 rfl) (by decide) (by decide)) (g := (mkF m 21 (la12 a1 x1 (3 : Int32)) [(.int 3), (.ref a1)])) rfl (by rw [hml]; rfl) (Steps.refl _) (a := a1) (by rw [e540]; exact q541a) q541b (argsL := [(.int 3)]) (rest := []) (lenOf pd_5 rfl) rfl (wz rfl) (hb hby d8_21) (fun _ _ => ⟨rfl, e540, (by decide : 0 + 0 ≤ _), (by decide : 0 + 0 ≤ _)⟩)
 dsimp only [Pt.U, Pt.locs, Pt.cells, Pt.slots] at X541 l541 y541 z541 st541 hQ541
 subst l541 y541 z541
 obtain ⟨rfl, N541q, e541⟩ := hQ541
 have N541 := Fr.app N539 N541q
 obtain ⟨T542, X542, e542, st542⟩ := getF X541 hx hZ hown (host := "") (Or.inl (wd hw 65 rfl)) Via.refl e541 Fbn (g := (mkF m 26 (la12 a1 x1 (3 : Int32)) [(.ref a1), (.ref a1)])) rfl rfl (hb hby d8_26)
 -- pc 30: AbstractStringBuilder.putStringAt by rm_ps_3_0_16
 obtain ⟨cq543, q543a, q543b⟩ := Eb.cell
 obtain ⟨_, _, ⟨T543, L543, k543, n543⟩, -, X543, ⟨Lc543, hQ543, l543, y543, z543⟩, st543⟩ := X542.privateBack hx (y := (⟨kS0, "putStringAt", "(ILjava/lang/String;)V"⟩ : MethodName)) hown (mvT hZ (wd hw 72 rfl)) (mvT hZ (wd hw 73 rfl)) (mvT hZ (own_selfsel (wd hw 75 rfl) (wd hw 74 rfl) (wd hw 73 rfl) (by decide))) (Cond.privateMethod_at (mvP hZ (wd hw 74 rfl) (args := #[]))) (mvT hZ (wd hw 76 rfl)) (by decide) (backOf (W := 0) (rm_ps_3_0_16 l Z a0 hw [] x1 t1 k1 xs0 xs1 xs2 a1 d1 kd z0 h0 n0 (by omega) O0 Esx1 Fcx1 Fvx1 Vsx1 Eb Fbv Fbc Fbn Vb (by first | assumption | decide | omega) (by first | assumption | decide | omega) (by first | assumption | decide | omega) ned) hZ (wd hw 76 rfl) (wd hw 36 rfl) (by decide) (by decide)) (g := (mkF m 30 (la12 a1 x1 (3 : Int32)) [(.ref x1), (.int 0), (.ref a1)])) rfl (by rw [hml]; rfl) (Steps.refl _) (a := a1) (by rw [e542]; exact q543a) q543b (argsL := [(.int 0), (.ref x1)]) (rest := []) (lenOf pd_9 rfl) rfl (wz rfl) (hb hby d8_30) (fun _ _ => ⟨rfl, e542, (by decide : 0 + 0 ≤ _), (by decide : 0 + 0 ≤ _)⟩)
 dsimp only [Pt.U, Pt.locs, Pt.cells, Pt.slots] at X543 l543 y543 z543 st543 hQ543
 subst l543 y543 z543
 obtain ⟨h543, e543⟩ : ∃ z, T543.heap = z := ⟨_, rfl⟩
 rw [e543] at hQ543
 obtain ⟨rfl, N543q, K543, p543_0⟩ := hQ543
 have N543 := Fr.app N541 N543q
 have ne544 : d1 ≠ x1 := Ne.symm (Exa.neArv Esx1 Vb (wd hw 2 rfl))
 have ne545 : d1 ≠ a1 := Ne.symm (Exa.neArv Eb Vb (wd hw 27 rfl))
 have sz543 : h0.size ≤ h543.size := K543.1
 have lt543_0 := ltA p543_0.lt
 have f546 : Fld Z h543 a1 kS0 "count" "I" (.int 0) := (Fbn.keep K543 (ninS (Ne.symm ne545) nin0))
 obtain ⟨T547, X547, e547, st547⟩ := getF X543 hx hZ hown (host := "") (Or.inl (wd hw 65 rfl)) Via.refl e543 f546 (g := (mkF m 35 (la12 a1 x1 (3 : Int32)) [(.ref a1), (.ref a1)])) rfl rfl (hb hby d8_35)
 have f548 : Exa Z h543 a1 kS2 := (Eb.keep K543)
 obtain ⟨T549, h549, X549, e549, W549, st549⟩ := putF X547 hx hZ hown (host := "") (Or.inl (wd hw 65 rfl)) Via.refl e547 f546 f548 (Or.inl (wd hw 66 rfl)) (wd hw 27 rfl) (ty := .int) (by decide) rfl rfl (g := (mkF m 40 (la12 a1 x1 (3 : Int32)) [(.int 3), (.ref a1)])) rfl rfl (hb hby d8_40)
 have N549 := Fr.snoc X549 N543 (by omega : n0 ≤ a1)
 have f550 : Exa Z h543 x1 kS1 := (Esx1.keep K543)
 have ne551 : a1 ≠ x1 := ne_exa f548 f550 (by decide)
 have f552 : Arv Z h543 t1 k1 .byte (3 : Int32) [(.int xs0), (.int xs1), (.int xs2)] (.int 0) := (Vsx1.keep K543 (ninS ned nin0))
 have ne553 : a1 ≠ t1 := Exa.neArv f548 f552 (wd hw 27 rfl)
 have sz549 : h543.size ≤ h549.size := Nat.le_of_eq W549.size.symm
 have f549 : Fld Z h549 a1 kS0 "count" "I" (.int 3) := f546.same W549
 have f554 : Exa Z h549 a1 kS2 := (f548.wr W549)
 have f555 : Fld Z h549 a1 kS0 "value" "[B" (.ref d1) := ((Fbv.keep K543 (ninS (Ne.symm ne545) nin0)).other W549 (Or.inr (slot_ne (Or.inl (wd hw 41 rfl)) (Or.inl (wd hw 66 rfl)) (by decide) (t := (.array .byte)) (t' := .int) (by decide) (by decide))))
 have f556 : Fld Z h549 a1 kS0 "coder" "B" (.int 0) := ((Fbc.keep K543 (ninS (Ne.symm ne545) nin0)).other W549 (Or.inr (slot_ne (Or.inl (wd hw 43 rfl)) (Or.inl (wd hw 66 rfl)) (by decide) (t := .byte) (t' := .int) (by decide) (by decide))))
 have f557 : Arv Z h549 d1 kd .byte (16 : Int32) [(.int xs0), (.int xs1), (.int xs2), (.int 0), (.int 0), (.int 0), (.int 0), (.int 0), (.int 0), (.int 0), (.int 0), (.int 0), (.int 0), (.int 0), (.int 0), (.int 0)] (.int 0) := (p543_0.other W549 ne545)
 obtain ⟨fs, hr, hrun, hended, hW, hsame⟩ := X549.leave (v := some (.ref a1)) (fun h => by rw [Bd.returns] at h; cases h)
 refine ⟨_, _, pre0 _ ?_, hrun, hended, _, _, rfl, ?_, ⟨_, rfl⟩, hW, hsame.mono (by decide) (by decide)⟩
 ·show GO p e below s₁ (mkF m 0 (la11 a1 x1) []) _
  refine XS.aloadN X0.here hx rfl (hb hby d8_0) rfl rfl ?_
  show GO p e below s₁ (mkF m 1 (la11 a1 x1) [(.ref x1)]) _
  refine XS.ifnonnullYes X0.here hx rfl (pc0 := 1) (pc' := 9) rfl (hb hby d8_1) rfl (by decide) (by decide) ?_
  show GO p e below s₁ (mkF m 9 (la11 a1 x1) []) _
  refine XS.aloadN X0.here hx rfl (hb hby d8_9) rfl rfl ?_
  show GO p e below s₁ (mkF m 10 (la11 a1 x1) [(.ref x1)]) _
  refine st539.trans ?_
  show GO p e below T539 (mkF m 13 (la11 a1 x1) [(.int 3)]) _
  refine XS.istoreN X539.here hx rfl (hb hby d8_13) rfl (l' := (la12 a1 x1 (3 : Int32))) rfl ?_
  show GO p e below T539 (mkF m 14 (la12 a1 x1 (3 : Int32)) []) _
  refine XS.aloadN X539.here hx rfl (hb hby d8_14) rfl rfl ?_
  show GO p e below T539 (mkF m 15 (la12 a1 x1 (3 : Int32)) [(.ref a1)]) _
  refine XS.aloadN X539.here hx rfl (hb hby d8_15) rfl rfl ?_
  show GO p e below T539 (mkF m 16 (la12 a1 x1 (3 : Int32)) [(.ref a1), (.ref a1)]) _
  refine st540 _ ?_
  show GO p e below T540 (mkF m 19 (la12 a1 x1 (3 : Int32)) [(.int 0), (.ref a1)]) _
  refine XS.iloadN X540.here hx rfl (hb hby d8_19) rfl ?_
  show GO p e below T540 (mkF m 20 (la12 a1 x1 (3 : Int32)) [(.int 3), (.int 0), (.ref a1)]) _
  refine XS.iadd X540.here hx rfl (hb hby d8_20) rfl ?_
  rw [show ((0 : Int32) + (3 : Int32)) = (3 : Int32) from by decide]
  show GO p e below T540 (mkF m 21 (la12 a1 x1 (3 : Int32)) [(.int 3), (.ref a1)]) _
  refine st541.trans ?_
  show GO p e below T541 (mkF m 24 (la12 a1 x1 (3 : Int32)) []) _
  refine XS.aloadN X541.here hx rfl (hb hby d8_24) rfl rfl ?_
  show GO p e below T541 (mkF m 25 (la12 a1 x1 (3 : Int32)) [(.ref a1)]) _
  refine XS.aloadN X541.here hx rfl (hb hby d8_25) rfl rfl ?_
  show GO p e below T541 (mkF m 26 (la12 a1 x1 (3 : Int32)) [(.ref a1), (.ref a1)]) _
  refine st542 _ ?_
  show GO p e below T542 (mkF m 29 (la12 a1 x1 (3 : Int32)) [(.int 0), (.ref a1)]) _
  refine XS.aloadN X542.here hx rfl (hb hby d8_29) rfl rfl ?_
  show GO p e below T542 (mkF m 30 (la12 a1 x1 (3 : Int32)) [(.ref x1), (.int 0), (.ref a1)]) _
  refine st543.trans ?_
  show GO p e below T543 (mkF m 33 (la12 a1 x1 (3 : Int32)) []) _
  refine XS.aloadN X543.here hx rfl (hb hby d8_33) rfl rfl ?_
  show GO p e below T543 (mkF m 34 (la12 a1 x1 (3 : Int32)) [(.ref a1)]) _
  refine XS.dup X543.here hx rfl (hb hby d8_34) rfl rfl ?_
  show GO p e below T543 (mkF m 35 (la12 a1 x1 (3 : Int32)) [(.ref a1), (.ref a1)]) _
  refine st547 _ ?_
  show GO p e below T547 (mkF m 38 (la12 a1 x1 (3 : Int32)) [(.int 0), (.ref a1)]) _
  refine XS.iloadN X547.here hx rfl (hb hby d8_38) rfl ?_
  show GO p e below T547 (mkF m 39 (la12 a1 x1 (3 : Int32)) [(.int 3), (.int 0), (.ref a1)]) _
  refine XS.iadd X547.here hx rfl (hb hby d8_39) rfl ?_
  rw [show ((0 : Int32) + (3 : Int32)) = (3 : Int32) from by decide]
  show GO p e below T547 (mkF m 40 (la12 a1 x1 (3 : Int32)) [(.int 3), (.ref a1)]) _
  refine st549 _ ?_
  show GO p e below T549 (mkF m 43 (la12 a1 x1 (3 : Int32)) []) _
  refine XS.aloadN X549.here hx rfl (hb hby d8_43) rfl rfl ?_
  show GO p e below T549 (mkF m 44 (la12 a1 x1 (3 : Int32)) [(.ref a1)]) _
  exact retOut X549 hx Bd.returns rfl (Or.inr (Or.inr (Or.inr (Or.inr ⟨rfl, rfl, rfl⟩)))) (hb hby d8_44) hr
 ·show Qrm_aa_3_0_16 Z x1 t1 k1 xs0 xs1 xs2 a1 d1 kd z0 h0 n0 _ T549.heap _
  rw [e549]
  exact ⟨rfl, N549, (((Keep.refl h0 [a1, d1]).trans K543 (allS (P := fun x => x ∈ _ ∨ _) (Or.inl (List.mem_of_getElem? (i := 1) rfl)) all0)).wr W549 (Or.inl (List.mem_of_getElem? (i := 0) rfl))), f554, f555, f556, f549, f557⟩
def Qrm_sa_3_0_16 (Z : State) (x1 : Addr) (t1 : Addr) (k1 : ClassId) (xs0 : Int32) (xs1 : Int32) (xs2 : Int32) (a1 : Addr) (d1 : Addr) (kd : ClassId) (z0 : Int32) (h0 : Heap) (n0 : Nat) (v : Option Value) (h : Heap) (L : List Loc) : Prop := v = some (.ref a1) ∧ Fr n0 L ∧ Keep h0 h [a1, d1] ∧ Exa Z h a1 kS2 ∧ Fld Z h a1 kS0 "value" "[B" (.ref d1) ∧ Fld Z h a1 kS0 "coder" "B" (.int 0) ∧ Fld Z h a1 kS0 "count" "I" (.int 3) ∧ Arv Z h d1 kd .byte (16 : Int32) [(.int xs0), (.int xs1), (.int xs2), (.int 0), (.int 0), (.int 0), (.int 0), (.int 0), (.int 0), (.int 0), (.int 0), (.int 0), (.int 0), (.int 0), (.int 0), (.int 0)] (.int 0)
theorem ef_rm_sa_3_0_16 (m : MethodId) (x0 : Addr) (x1 : Addr) : entryFrame m #[(.ref x0), (.ref x1)] 2 = mkF m 0 #[.val (.ref x0), .val (.ref x1)] [] := by first | rfl | (simp [entryFrame, mkF, argsToLocals, Value.category]; done)
theorem rm_sa_3_0_16 (l : Launch) (Z : State) (a0 : Array Value) (hw : HW Z a0) (ws : List Jvm.Cond) (x1 : Addr) (t1 : Addr) (k1 : ClassId) (xs0 : Int32) (xs1 : Int32) (xs2 : Int32) (a1 : Addr) (d1 : Addr) (kd : ClassId) (z0 : Int32) (h0 : Heap) (n0 : Nat) (Z0 : n0 ≤ h0.size) (O0 : Old Z n0 h0) (Esx1 : Exa Z h0 x1 kS1) (Fcx1 : Fld Z h0 x1 kS1 "coder" "B" (.int 0)) (Fvx1 : Fld Z h0 x1 kS1 "value" "[B" (.ref t1)) (Vsx1 : Arv Z h0 t1 k1 .byte (3 : Int32) [(.int xs0), (.int xs1), (.int xs2)] (.int 0)) (Eb : Exa Z h0 a1 kS2) (Fbv : Fld Z h0 a1 kS0 "value" "[B" (.ref d1)) (Fbc : Fld Z h0 a1 kS0 "coder" "B" (.int 0)) (Fbn : Fld Z h0 a1 kS0 "count" "I" (.int 0)) (Vb : Arv Z h0 d1 kd .byte (16 : Int32) [(.int 0), (.int 0), (.int 0), (.int 0), (.int 0), (.int 0), (.int 0), (.int 0), (.int 0), (.int 0), (.int 0), (.int 0), (.int 0), (.int 0), (.int 0), (.int 0)] (.int 0)) (SZc : Sta Z Z.heap kS1 "COMPACT_STRINGS" "Z" (.int z0)) (hz0 : ¬ z0 = 0) (ga : n0 ≤ a1) (gd : n0 ≤ d1) (ned : t1 ≠ d1) :
  OwnM l Z h0 (⟨kS2, "append", "(Ljava/lang/String;)Ljava/lang/StringBuilder;"⟩ : MethodName) (Jvm.Cond.code (⟨kS2, "append", "(Ljava/lang/String;)Ljava/lang/StringBuilder;"⟩ : MethodName) jdk_67_method_7_code 2 (some (.object kS2)) :: ws) (RM 4 0 0 61) #[(.ref a1), (.ref x1)] (Qrm_sa_3_0_16 Z x1 t1 k1 xs0 xs1 xs2 a1 d1 kd z0 h0 n0) := by
 refine MetFree.of_bodySF (plainFor_of_name pn_3) hisR ?_
 intro p e s m args below meth c s₁ Bd hml0 hP hK
 obtain ⟨rfl, hZ, hh⟩ := hP
 have hx := Bd.exec
 have hby := Bd.bytes
 have hml : c.maxLocals = 2 := hml0
 have hown : s.vm.findClass kS2 = some m.cls := findClass_of_methodNamed Bd.named
 have hnm := (name_of_methodNamed Bd.named Bd.method).1
 have X0 : Stand p l e (RM 4 0 0 61) s m #[(.ref a1), (.ref x1)] below meth c s₁ [] 0 0 := Stand.of_body Bd
 have e0 : s₁.heap = h0 := by rw [← hh, Bd.state]; rfl
 have N0 := Fr.nil n0
 have pre0 : ∀ t, GO p e below s₁ (mkF m 0 #[.val (.ref a1), .val (.ref x1)] []) t → GO p e below s₁ (entryFrame m #[(.ref a1), (.ref x1)] 2) t := fun t k => castTop (ef_rm_sa_3_0_16 m a1 x1) k
 have lt_Esx1 := ltA Esx1.lt
 have lt_Fcx1 := ltA Fcx1.lt
 have lt_Fvx1 := ltA Fvx1.lt
 have lt_Vsx1 := ltA Vsx1.lt
 have lt_Eb := ltA Eb.lt
 have lt_Fbv := ltA Fbv.lt
 have lt_Fbc := ltA Fbc.lt
 have lt_Fbn := ltA Fbn.lt
 have lt_Vb := ltA Vb.lt
 -- pc 2: AbstractStringBuilder.append by rm_aa_3_0_16
 obtain ⟨_, _, ⟨T558, L558, k558, n558⟩, -, X558, ⟨Lc558, hQ558, l558, y558, z558⟩, st558⟩ := superBack X0 hx hZ (y := (⟨kS0, "append", kS3⟩ : MethodName)) hown (wd hw 49 rfl) (own_sameM (y := (⟨kS0, "append", kS3⟩ : MethodName)) (wd hw 50 rfl) (wd hw 70 rfl) rfl (by decide)) (wd hw 50 rfl) (wd hw 51 rfl) (by decide) (backOf (W := 0) (rm_aa_3_0_16 l Z a0 hw [] x1 t1 k1 xs0 xs1 xs2 a1 d1 kd z0 h0 n0 (by omega) O0 Esx1 Fcx1 Fvx1 Vsx1 Eb Fbv Fbc Fbn Vb (by first | assumption | decide | omega) (by first | assumption | decide | omega) (by first | assumption | decide | omega) (by first | assumption | decide | omega) ned) hZ (wd hw 53 rfl) (wd hw 36 rfl) (by decide) (by decide)) e0 (Ins.self Eb) (g := (mkF m 2 #[.val (.ref a1), .val (.ref x1)] [(.ref x1), (.ref a1)])) rfl (by rw [hml]; rfl) (wd hw 53 rfl) (argsL := [(.ref x1)]) (rest := []) (lenOf pd_10 rfl) rfl (wz rfl) (hb hby d7_2) (fun _ _ => ⟨rfl, e0, (by decide : 0 + 0 ≤ _), (by decide : 0 + 0 ≤ _)⟩)
 dsimp only [Pt.U, Pt.locs, Pt.cells, Pt.slots] at X558 l558 y558 z558 st558 hQ558
 subst l558 y558 z558
 obtain ⟨h558, e558⟩ : ∃ z, T558.heap = z := ⟨_, rfl⟩
 rw [e558] at hQ558
 obtain ⟨rfl, N558q, K558, p558_0, p558_1, p558_2, p558_3, p558_4⟩ := hQ558
 have N558 := Fr.app N0 N558q
 have ne559 : a1 ≠ x1 := ne_exa Eb Esx1 (by decide)
 have ne560 : a1 ≠ t1 := Exa.neArv Eb Vsx1 (wd hw 27 rfl)
 have ne561 : a1 ≠ d1 := Exa.neArv Eb Vb (wd hw 27 rfl)
 have ne562 : d1 ≠ x1 := Ne.symm (Exa.neArv Esx1 Vb (wd hw 2 rfl))
 have sz558 : h0.size ≤ h558.size := K558.1
 have lt558_0 := ltA p558_0.lt
 have lt558_4 := ltA p558_4.lt
 obtain ⟨fs, hr, hrun, hended, hW, hsame⟩ := X558.leave (v := some (.ref a1)) (fun h => by rw [Bd.returns] at h; cases h)
 refine ⟨_, _, pre0 _ ?_, hrun, hended, _, _, rfl, ?_, ⟨_, rfl⟩, hW, hsame.mono (by decide) (by decide)⟩
 ·show GO p e below s₁ (mkF m 0 #[.val (.ref a1), .val (.ref x1)] []) _
  refine XS.aloadN X0.here hx rfl (hb hby d7_0) rfl rfl ?_
  show GO p e below s₁ (mkF m 1 #[.val (.ref a1), .val (.ref x1)] [(.ref a1)]) _
  refine XS.aloadN X0.here hx rfl (hb hby d7_1) rfl rfl ?_
  show GO p e below s₁ (mkF m 2 #[.val (.ref a1), .val (.ref x1)] [(.ref x1), (.ref a1)]) _
  refine st558.trans ?_
  show GO p e below T558 (mkF m 5 #[.val (.ref a1), .val (.ref x1)] [(.ref a1)]) _
  refine XS.pop X558.here hx rfl (hb hby d7_5) rfl rfl ?_
  show GO p e below T558 (mkF m 6 #[.val (.ref a1), .val (.ref x1)] []) _
  refine XS.aloadN X558.here hx rfl (hb hby d7_6) rfl rfl ?_
  show GO p e below T558 (mkF m 7 #[.val (.ref a1), .val (.ref x1)] [(.ref a1)]) _
  exact retOut X558 hx Bd.returns rfl (Or.inr (Or.inr (Or.inr (Or.inr ⟨rfl, rfl, rfl⟩)))) (hb hby d7_7) hr
 ·show Qrm_sa_3_0_16 Z x1 t1 k1 xs0 xs1 xs2 a1 d1 kd z0 h0 n0 _ T558.heap _
  rw [e558]
  exact ⟨rfl, N558, ((Keep.refl h0 [a1, d1]).trans K558 (allS (P := fun x => x ∈ _ ∨ _) (Or.inl (List.mem_of_getElem? (i := 0) rfl)) (allS (P := fun x => x ∈ _ ∨ _) (Or.inl (List.mem_of_getElem? (i := 1) rfl)) all0))), p558_0, p558_1, p558_2, p558_3, p558_4⟩
def Qrm_gb_1_3_16 (Z : State) (x1 : Addr) (t1 : Addr) (k1 : ClassId) (xs0 : Int32) (d1 : Addr) (kd : ClassId) (xe0 : Int32) (xe1 : Int32) (xe2 : Int32) (z0 : Int32) (h0 : Heap) (n0 : Nat) (v : Option Value) (h : Heap) (L : List Loc) : Prop := v = none ∧ Fr n0 L ∧ Keep h0 h [d1] ∧ Arv Z h d1 kd .byte (16 : Int32) [(.int xe0), (.int xe1), (.int xe2), (.int xs0), (.int 0), (.int 0), (.int 0), (.int 0), (.int 0), (.int 0), (.int 0), (.int 0), (.int 0), (.int 0), (.int 0), (.int 0)] (.int 0)
theorem ef_rm_gb_1_3_16 (m : MethodId) (x0 : Addr) (x1 : Addr) (x2 : Int32) (x3 : Int32) : entryFrame m #[(.ref x0), (.ref x1), (.int x2), (.int x3)] 4 = mkF m 0 (la10 x0 x1 x2 x3) [] := by first | rfl | (simp [entryFrame, mkF, argsToLocals, Value.category]; done)
theorem rm_gb_1_3_16 (l : Launch) (Z : State) (a0 : Array Value) (hw : HW Z a0) (ws : List Jvm.Cond) (x1 : Addr) (t1 : Addr) (k1 : ClassId) (xs0 : Int32) (d1 : Addr) (kd : ClassId) (xe0 : Int32) (xe1 : Int32) (xe2 : Int32) (z0 : Int32) (h0 : Heap) (n0 : Nat) (Z0 : n0 ≤ h0.size) (O0 : Old Z n0 h0) (Esx1 : Exa Z h0 x1 kS1) (Fcx1 : Fld Z h0 x1 kS1 "coder" "B" (.int 0)) (Fvx1 : Fld Z h0 x1 kS1 "value" "[B" (.ref t1)) (Vsx1 : Arv Z h0 t1 k1 .byte (1 : Int32) [(.int xs0)] (.int 0)) (Vd : Arv Z h0 d1 kd .byte (16 : Int32) [(.int xe0), (.int xe1), (.int xe2), (.int 0), (.int 0), (.int 0), (.int 0), (.int 0), (.int 0), (.int 0), (.int 0), (.int 0), (.int 0), (.int 0), (.int 0), (.int 0)] (.int 0)) (SZc : Sta Z Z.heap kS1 "COMPACT_STRINGS" "Z" (.int z0)) (hz0 : ¬ z0 = 0) (gd : n0 ≤ d1) (ned : t1 ≠ d1) :
  OwnM l Z h0 (⟨kS1, "getBytes", "([BIB)V"⟩ : MethodName) (Jvm.Cond.code (⟨kS1, "getBytes", "([BIB)V"⟩ : MethodName) jdk_42_method_147_code 4 none :: ws) (RM 1 0 0 18) #[(.ref x1), (.ref d1), (.int 3), (.int 0)] (Qrm_gb_1_3_16 Z x1 t1 k1 xs0 d1 kd xe0 xe1 xe2 z0 h0 n0) := by
 refine MetFree.of_bodySF (plainFor_of_name pn_0) hisR ?_
 intro p e s m args below meth c s₁ Bd hml0 hP hK
 obtain ⟨rfl, hZ, hh⟩ := hP
 have hx := Bd.exec
 have hby := Bd.bytes
 have hml : c.maxLocals = 4 := hml0
 have hown : s.vm.findClass kS1 = some m.cls := findClass_of_methodNamed Bd.named
 have hnm := (name_of_methodNamed Bd.named Bd.method).1
 have X0 : Stand p l e (RM 1 0 0 18) s m #[(.ref x1), (.ref d1), (.int 3), (.int 0)] below meth c s₁ [] 0 0 := Stand.of_body Bd
 have e0 : s₁.heap = h0 := by rw [← hh, Bd.state]; rfl
 have N0 := Fr.nil n0
 have pre0 : ∀ t, GO p e below s₁ (mkF m 0 (la10 x1 d1 (3 : Int32) (0 : Int32)) []) t → GO p e below s₁ (entryFrame m #[(.ref x1), (.ref d1), (.int 3), (.int 0)] 4) t := fun t k => castTop (ef_rm_gb_1_3_16 m x1 d1 ((3 : Int32)) ((0 : Int32))) k
 have lt_Esx1 := ltA Esx1.lt
 have lt_Fcx1 := ltA Fcx1.lt
 have lt_Fvx1 := ltA Fvx1.lt
 have lt_Vsx1 := ltA Vsx1.lt
 have lt_Vd := ltA Vd.lt
 -- pc 1: String.coder by rm_sc
 obtain ⟨cq563, kq563, q563a, q563b, q563c⟩ := isOf hZ e0 Esx1
 obtain ⟨_, _, ⟨T563, L563, k563, n563⟩, -, X563, ⟨Lc563, hQ563, l563, y563, z563⟩, st563⟩ := X0.virtualBack hx (y := (⟨kS1, "coder", "()B"⟩ : MethodName)) (z := (⟨kS1, "coder", "()B"⟩ : MethodName)) hown (mvT hZ (wd hw 59 rfl)) (mvT hZ (wd hw 60 rfl)) (notFace_of_selects (args := #[]) (mvT hZ (wd hw 62 rfl))) (mvT hZ (wd hw 62 rfl)) (mvT hZ (wd hw 61 rfl)) (by decide) (backOf (W := 0) (rm_sc l Z a0 hw [] x1 z0 h0 n0 (by omega) O0 Fcx1 (by first | assumption | decide | omega) (by first | assumption | decide | omega)) hZ (wd hw 63 rfl) (wd hw 3 rfl) (by decide) (by decide)) q563a q563c (g := (mkF m 1 (la10 x1 d1 (3 : Int32) (0 : Int32)) [(.ref x1)])) rfl (by rw [hml]; rfl) (Steps.refl _) (argsL := []) (rest := []) (lenOf pd_3 rfl) rfl (wz rfl) (hb hby d14_1) (fun _ _ => ⟨rfl, e0, (by decide : 0 + 0 ≤ _), (by decide : 0 + 0 ≤ _)⟩)
 dsimp only [Pt.U, Pt.locs, Pt.cells, Pt.slots] at X563 l563 y563 z563 st563 hQ563
 subst l563 y563 z563
 obtain ⟨rfl, N563q, e563⟩ := hQ563
 have N563 := Fr.app N0 N563q
 obtain ⟨T564, X564, e564, st564⟩ := getF X563 hx hZ hown (host := "") (Or.inl (wd hw 20 rfl)) Via.refl e563 Fvx1 (g := (mkF m 9 (la10 x1 d1 (3 : Int32) (0 : Int32)) [(.ref x1)])) rfl rfl (hb hby d14_9)
 obtain ⟨T565, X565, e565, st565⟩ := getF X564 hx hZ hown (host := "") (Or.inl (wd hw 20 rfl)) Via.refl e564 Fvx1 (g := (mkF m 18 (la10 x1 d1 (3 : Int32) (0 : Int32)) [(.ref x1), (.int 3), (.ref d1), (.int 0), (.ref t1)])) rfl rfl (hb hby d14_18)
 obtain ⟨cl566, Ar566, -, S566, M566, -, -⟩ := id Vsx1
 obtain ⟨T567, h567, L567, X567, e567, N567, K567, A567, st567⟩ := cpA X565 hx hZ hown (wd hw 88 rfl) (wd hw 91 rfl) (wd hw 89 rfl) (wd hw 90 rfl) e565 Vsx1 Vd (us := [(.int xs0)]) (Or.inl ⟨rfl, rfl⟩) (by decide) (by decide) (by decide) (by decide) (by decide) rfl (Nat.le_of_ble_eq_true rfl) N563 (by omega) (g := (mkF m 22 (la10 x1 d1 (3 : Int32) (0 : Int32)) [(.int 1), (.int 3), (.ref d1), (.int 0), (.ref t1)])) rfl (by rw [hml]; rfl) rfl (hb hby d14_22) (by decide) (W := 0) (wz rfl) (by decide)
 have sz567 : h0.size ≤ h567.size := K567.1
 have V567 : Arv Z h567 d1 kd .byte (16 : Int32) [(.int xe0), (.int xe1), (.int xe2), (.int xs0), (.int 0), (.int 0), (.int 0), (.int 0), (.int 0), (.int 0), (.int 0), (.int 0), (.int 0), (.int 0), (.int 0), (.int 0)] (.int 0) := A567
 obtain ⟨fs, hr, hrun, hended, hW, hsame⟩ := X567.leave (v := none) (fun _ => rfl)
 refine ⟨_, _, pre0 _ ?_, hrun, hended, _, _, rfl, ?_, ⟨_, rfl⟩, hW, hsame.mono (by decide) (by decide)⟩
 ·show GO p e below s₁ (mkF m 0 (la10 x1 d1 (3 : Int32) (0 : Int32)) []) _
  refine XS.aloadN X0.here hx rfl (hb hby d14_0) rfl rfl ?_
  show GO p e below s₁ (mkF m 1 (la10 x1 d1 (3 : Int32) (0 : Int32)) [(.ref x1)]) _
  refine st563.trans ?_
  show GO p e below T563 (mkF m 4 (la10 x1 d1 (3 : Int32) (0 : Int32)) [(.int 0)]) _
  refine XS.iloadN X563.here hx rfl (hb hby d14_4) rfl ?_
  show GO p e below T563 (mkF m 5 (la10 x1 d1 (3 : Int32) (0 : Int32)) [(.int 0), (.int 0)]) _
  refine XS.icmpNo X563.here hx rfl (hb hby d14_5) rfl (teq (rfl : (0 : Int32) = (0 : Int32))).2 ?_
  show GO p e below T563 (mkF m 8 (la10 x1 d1 (3 : Int32) (0 : Int32)) []) _
  refine XS.aloadN X563.here hx rfl (hb hby d14_8) rfl rfl ?_
  show GO p e below T563 (mkF m 9 (la10 x1 d1 (3 : Int32) (0 : Int32)) [(.ref x1)]) _
  refine st564 _ ?_
  show GO p e below T564 (mkF m 12 (la10 x1 d1 (3 : Int32) (0 : Int32)) [(.ref t1)]) _
  refine XS.iconst X564.here hx rfl (hb hby d14_12) ?_
  show GO p e below T564 (mkF m 13 (la10 x1 d1 (3 : Int32) (0 : Int32)) [(.int 0), (.ref t1)]) _
  refine XS.aloadN X564.here hx rfl (hb hby d14_13) rfl rfl ?_
  show GO p e below T564 (mkF m 14 (la10 x1 d1 (3 : Int32) (0 : Int32)) [(.ref d1), (.int 0), (.ref t1)]) _
  refine XS.iloadN X564.here hx rfl (hb hby d14_14) rfl ?_
  show GO p e below T564 (mkF m 15 (la10 x1 d1 (3 : Int32) (0 : Int32)) [(.int 3), (.ref d1), (.int 0), (.ref t1)]) _
  refine XS.iloadN X564.here hx rfl (hb hby d14_15) rfl ?_
  show GO p e below T564 (mkF m 16 (la10 x1 d1 (3 : Int32) (0 : Int32)) [(.int 0), (.int 3), (.ref d1), (.int 0), (.ref t1)]) _
  refine XS.ishl X564.here hx rfl (hb hby d14_16) rfl ?_
  rw [show ((3 : Int32) <<< ((0 : Int32) &&& 31)) = (3 : Int32) from by decide]
  show GO p e below T564 (mkF m 17 (la10 x1 d1 (3 : Int32) (0 : Int32)) [(.int 3), (.ref d1), (.int 0), (.ref t1)]) _
  refine XS.aloadN X564.here hx rfl (hb hby d14_17) rfl rfl ?_
  show GO p e below T564 (mkF m 18 (la10 x1 d1 (3 : Int32) (0 : Int32)) [(.ref x1), (.int 3), (.ref d1), (.int 0), (.ref t1)]) _
  refine st565 _ ?_
  show GO p e below T565 (mkF m 21 (la10 x1 d1 (3 : Int32) (0 : Int32)) [(.ref t1), (.int 3), (.ref d1), (.int 0), (.ref t1)]) _
  refine X565.arraylength hx (by rw [e565]; exact Ar566.1) (State.isArrayOf_alike hZ.alike Ar566.2.1) (g := (mkF m 21 (la10 x1 d1 (3 : Int32) (0 : Int32)) [(.ref t1), (.int 3), (.ref d1), (.int 0), (.ref t1)])) rfl rfl (hb hby d14_21) _ ?_
  rw [len_of S566 M566]
  show GO p e below T565 (mkF m 22 (la10 x1 d1 (3 : Int32) (0 : Int32)) [(.int 1), (.int 3), (.ref d1), (.int 0), (.ref t1)]) _
  refine st567 _ ?_
  show GO p e below T567 (mkF m 25 (la10 x1 d1 (3 : Int32) (0 : Int32)) []) _
  refine XS.goto X567.here hx rfl (pc0 := 25) (pc' := 43) rfl (hb hby d14_25) (by decide) (by decide) ?_
  show GO p e below T567 (mkF m 43 (la10 x1 d1 (3 : Int32) (0 : Int32)) []) _
  exact X567.returnOut hx Bd.returns (hb hby d14_43) hr
 ·show Qrm_gb_1_3_16 Z x1 t1 k1 xs0 d1 kd xe0 xe1 xe2 z0 h0 n0 _ T567.heap _
  rw [e567]
  exact ⟨rfl, N567, ((Keep.refl h0 [d1]).trans K567 (allS (P := fun x => x ∈ _ ∨ _) (Or.inl (List.mem_of_getElem? (i := 0) rfl)) all0)), V567⟩
def Qrm_ps_1_3_16 (Z : State) (x1 : Addr) (t1 : Addr) (k1 : ClassId) (xs0 : Int32) (a1 : Addr) (d1 : Addr) (kd : ClassId) (xe0 : Int32) (xe1 : Int32) (xe2 : Int32) (z0 : Int32) (h0 : Heap) (n0 : Nat) (v : Option Value) (h : Heap) (L : List Loc) : Prop := v = none ∧ Fr n0 L ∧ Keep h0 h [d1] ∧ Arv Z h d1 kd .byte (16 : Int32) [(.int xe0), (.int xe1), (.int xe2), (.int xs0), (.int 0), (.int 0), (.int 0), (.int 0), (.int 0), (.int 0), (.int 0), (.int 0), (.int 0), (.int 0), (.int 0), (.int 0)] (.int 0)
theorem ef_rm_ps_1_3_16 (m : MethodId) (x0 : Addr) (x1 : Int32) (x2 : Addr) : entryFrame m #[(.ref x0), (.int x1), (.ref x2)] 3 = mkF m 0 (la7 x0 x1 x2) [] := by first | rfl | (simp [entryFrame, mkF, argsToLocals, Value.category]; done)
theorem rm_ps_1_3_16 (l : Launch) (Z : State) (a0 : Array Value) (hw : HW Z a0) (ws : List Jvm.Cond) (x1 : Addr) (t1 : Addr) (k1 : ClassId) (xs0 : Int32) (a1 : Addr) (d1 : Addr) (kd : ClassId) (xe0 : Int32) (xe1 : Int32) (xe2 : Int32) (z0 : Int32) (h0 : Heap) (n0 : Nat) (Z0 : n0 ≤ h0.size) (O0 : Old Z n0 h0) (Esx1 : Exa Z h0 x1 kS1) (Fcx1 : Fld Z h0 x1 kS1 "coder" "B" (.int 0)) (Fvx1 : Fld Z h0 x1 kS1 "value" "[B" (.ref t1)) (Vsx1 : Arv Z h0 t1 k1 .byte (1 : Int32) [(.int xs0)] (.int 0)) (Eb : Exa Z h0 a1 kS2) (Fbv : Fld Z h0 a1 kS0 "value" "[B" (.ref d1)) (Fbc : Fld Z h0 a1 kS0 "coder" "B" (.int 0)) (Fbn : Fld Z h0 a1 kS0 "count" "I" (.int 3)) (Vb : Arv Z h0 d1 kd .byte (16 : Int32) [(.int xe0), (.int xe1), (.int xe2), (.int 0), (.int 0), (.int 0), (.int 0), (.int 0), (.int 0), (.int 0), (.int 0), (.int 0), (.int 0), (.int 0), (.int 0), (.int 0)] (.int 0)) (SZc : Sta Z Z.heap kS1 "COMPACT_STRINGS" "Z" (.int z0)) (hz0 : ¬ z0 = 0) (gd : n0 ≤ d1) (ned : t1 ≠ d1) :
  OwnM l Z h0 (⟨kS0, "putStringAt", "(ILjava/lang/String;)V"⟩ : MethodName) (Jvm.Cond.code (⟨kS0, "putStringAt", "(ILjava/lang/String;)V"⟩ : MethodName) jdk_68_method_73_code 3 none :: ws) (RM 2 0 0 33) #[(.ref a1), (.int 3), (.ref x1)] (Qrm_ps_1_3_16 Z x1 t1 k1 xs0 a1 d1 kd xe0 xe1 xe2 z0 h0 n0) := by
 refine MetFree.of_bodySF (plainFor_of_name pn_2) hisR ?_
 intro p e s m args below meth c s₁ Bd hml0 hP hK
 obtain ⟨rfl, hZ, hh⟩ := hP
 have hx := Bd.exec
 have hby := Bd.bytes
 have hml : c.maxLocals = 3 := hml0
 have hown : s.vm.findClass kS0 = some m.cls := findClass_of_methodNamed Bd.named
 have hnm := (name_of_methodNamed Bd.named Bd.method).1
 have X0 : Stand p l e (RM 2 0 0 33) s m #[(.ref a1), (.int 3), (.ref x1)] below meth c s₁ [] 0 0 := Stand.of_body Bd
 have e0 : s₁.heap = h0 := by rw [← hh, Bd.state]; rfl
 have N0 := Fr.nil n0
 have pre0 : ∀ t, GO p e below s₁ (mkF m 0 (la7 a1 (3 : Int32) x1) []) t → GO p e below s₁ (entryFrame m #[(.ref a1), (.int 3), (.ref x1)] 3) t := fun t k => castTop (ef_rm_ps_1_3_16 m a1 ((3 : Int32)) x1) k
 have lt_Esx1 := ltA Esx1.lt
 have lt_Fcx1 := ltA Fcx1.lt
 have lt_Fvx1 := ltA Fvx1.lt
 have lt_Vsx1 := ltA Vsx1.lt
 have lt_Eb := ltA Eb.lt
 have lt_Fbv := ltA Fbv.lt
 have lt_Fbc := ltA Fbc.lt
 have lt_Fbn := ltA Fbn.lt
 have lt_Vb := ltA Vb.lt
 -- pc 2: AbstractStringBuilder.inflateIfNeededFor by rm_inf
 obtain ⟨cq568, q568a, q568b⟩ := Eb.cell
 obtain ⟨_, _, ⟨T568, L568, k568, n568⟩, -, X568, ⟨Lc568, hQ568, l568, y568, z568⟩, st568⟩ := X0.privateBack hx (y := (⟨kS0, "inflateIfNeededFor", "(Ljava/lang/String;)V"⟩ : MethodName)) hown (mvT hZ (wd hw 77 rfl)) (mvT hZ (wd hw 78 rfl)) (mvT hZ (own_selfsel (wd hw 80 rfl) (wd hw 79 rfl) (wd hw 78 rfl) (by decide))) (Cond.privateMethod_at (mvP hZ (wd hw 79 rfl) (args := #[]))) (mvT hZ (wd hw 81 rfl)) (by decide) (backOf (W := 0) (rm_inf l Z a0 hw [] a1 x1 z0 h0 n0 (by omega) O0 Fbc Esx1 Fcx1 (by first | assumption | decide | omega) (by first | assumption | decide | omega)) hZ (wd hw 81 rfl) (wd hw 36 rfl) (by decide) (by decide)) (g := (mkF m 2 (la7 a1 (3 : Int32) x1) [(.ref x1), (.ref a1)])) rfl (by rw [hml]; rfl) (Steps.refl _) (a := a1) (by rw [e0]; exact q568a) q568b (argsL := [(.ref x1)]) (rest := []) (lenOf pd_6 rfl) rfl (wz rfl) (hb hby d12_2) (fun _ _ => ⟨rfl, e0, (by decide : 0 + 0 ≤ _), (by decide : 0 + 0 ≤ _)⟩)
 dsimp only [Pt.U, Pt.locs, Pt.cells, Pt.slots] at X568 l568 y568 z568 st568 hQ568
 subst l568 y568 z568
 obtain ⟨rfl, N568q, e568⟩ := hQ568
 have N568 := Fr.app N0 N568q
 obtain ⟨T569, X569, e569, st569⟩ := getF X568 hx hZ hown (host := "") (Or.inl (wd hw 40 rfl)) Via.refl e568 Fbv (g := (mkF m 7 (la7 a1 (3 : Int32) x1) [(.ref a1), (.ref x1)])) rfl rfl (hb hby d12_7)
 obtain ⟨T570, X570, e570, st570⟩ := getF X569 hx hZ hown (host := "") (Or.inl (wd hw 42 rfl)) Via.refl e569 Fbc (g := (mkF m 12 (la7 a1 (3 : Int32) x1) [(.ref a1), (.int 3), (.ref d1), (.ref x1)])) rfl rfl (hb hby d12_12)
 -- pc 15: String.getBytes by rm_gb_1_3_16
 obtain ⟨cq571, kq571, q571a, q571b, q571c⟩ := isOf hZ e570 Esx1
 obtain ⟨_, _, ⟨T571, L571, k571, n571⟩, -, X571, ⟨Lc571, hQ571, l571, y571, z571⟩, st571⟩ := X570.virtualBack hx (y := (⟨kS1, "getBytes", "([BIB)V"⟩ : MethodName)) (z := (⟨kS1, "getBytes", "([BIB)V"⟩ : MethodName)) hown (mvT hZ (wd hw 83 rfl)) (mvT hZ (wd hw 84 rfl)) (notFace_of_selects (args := #[]) (mvT hZ (wd hw 86 rfl))) (mvT hZ (wd hw 86 rfl)) (mvT hZ (wd hw 85 rfl)) (by decide) (backOf (W := 0) (rm_gb_1_3_16 l Z a0 hw [] x1 t1 k1 xs0 d1 kd xe0 xe1 xe2 z0 h0 n0 (by omega) O0 Esx1 Fcx1 Fvx1 Vsx1 Vb (by first | assumption | decide | omega) (by first | assumption | decide | omega) (by first | assumption | decide | omega) ned) hZ (wd hw 87 rfl) (wd hw 3 rfl) (by decide) (by decide)) q571a q571c (g := (mkF m 15 (la7 a1 (3 : Int32) x1) [(.int 0), (.int 3), (.ref d1), (.ref x1)])) rfl (by rw [hml]; rfl) (Steps.refl _) (argsL := [(.ref d1), (.int 3), (.int 0)]) (rest := []) (lenOf pd_7 rfl) rfl (wz rfl) (hb hby d12_15) (fun _ _ => ⟨rfl, e570, (by decide : 0 + 0 ≤ _), (by decide : 0 + 0 ≤ _)⟩)
 dsimp only [Pt.U, Pt.locs, Pt.cells, Pt.slots] at X571 l571 y571 z571 st571 hQ571
 subst l571 y571 z571
 obtain ⟨h571, e571⟩ : ∃ z, T571.heap = z := ⟨_, rfl⟩
 rw [e571] at hQ571
 obtain ⟨rfl, N571q, K571, p571_0⟩ := hQ571
 have N571 := Fr.app N568 N571q
 have sz571 : h0.size ≤ h571.size := K571.1
 have lt571_0 := ltA p571_0.lt
 obtain ⟨fs, hr, hrun, hended, hW, hsame⟩ := X571.leave (v := none) (fun _ => rfl)
 refine ⟨_, _, pre0 _ ?_, hrun, hended, _, _, rfl, ?_, ⟨_, rfl⟩, hW, hsame.mono (by decide) (by decide)⟩
 ·show GO p e below s₁ (mkF m 0 (la7 a1 (3 : Int32) x1) []) _
  refine XS.aloadN X0.here hx rfl (hb hby d12_0) rfl rfl ?_
  show GO p e below s₁ (mkF m 1 (la7 a1 (3 : Int32) x1) [(.ref a1)]) _
  refine XS.aloadN X0.here hx rfl (hb hby d12_1) rfl rfl ?_
  show GO p e below s₁ (mkF m 2 (la7 a1 (3 : Int32) x1) [(.ref x1), (.ref a1)]) _
  refine st568.trans ?_
  show GO p e below T568 (mkF m 5 (la7 a1 (3 : Int32) x1) []) _
  refine XS.aloadN X568.here hx rfl (hb hby d12_5) rfl rfl ?_
  show GO p e below T568 (mkF m 6 (la7 a1 (3 : Int32) x1) [(.ref x1)]) _
  refine XS.aloadN X568.here hx rfl (hb hby d12_6) rfl rfl ?_
  show GO p e below T568 (mkF m 7 (la7 a1 (3 : Int32) x1) [(.ref a1), (.ref x1)]) _
  refine st569 _ ?_
  show GO p e below T569 (mkF m 10 (la7 a1 (3 : Int32) x1) [(.ref d1), (.ref x1)]) _
  refine XS.iloadN X569.here hx rfl (hb hby d12_10) rfl ?_
  show GO p e below T569 (mkF m 11 (la7 a1 (3 : Int32) x1) [(.int 3), (.ref d1), (.ref x1)]) _
  refine XS.aloadN X569.here hx rfl (hb hby d12_11) rfl rfl ?_
  show GO p e below T569 (mkF m 12 (la7 a1 (3 : Int32) x1) [(.ref a1), (.int 3), (.ref d1), (.ref x1)]) _
  refine st570 _ ?_
  show GO p e below T570 (mkF m 15 (la7 a1 (3 : Int32) x1) [(.int 0), (.int 3), (.ref d1), (.ref x1)]) _
  refine st571.trans ?_
  show GO p e below T571 (mkF m 18 (la7 a1 (3 : Int32) x1) []) _
  exact X571.returnOut hx Bd.returns (hb hby d12_18) hr
 ·show Qrm_ps_1_3_16 Z x1 t1 k1 xs0 a1 d1 kd xe0 xe1 xe2 z0 h0 n0 _ T571.heap _
  rw [e571]
  exact ⟨rfl, N571, ((Keep.refl h0 [d1]).trans K571 (allS (P := fun x => x ∈ _ ∨ _) (Or.inl (List.mem_of_getElem? (i := 0) rfl)) all0)), p571_0⟩
def Qrm_aa_1_3_16 (Z : State) (x1 : Addr) (t1 : Addr) (k1 : ClassId) (xs0 : Int32) (a1 : Addr) (d1 : Addr) (kd : ClassId) (xe0 : Int32) (xe1 : Int32) (xe2 : Int32) (z0 : Int32) (h0 : Heap) (n0 : Nat) (v : Option Value) (h : Heap) (L : List Loc) : Prop := v = some (.ref a1) ∧ Fr n0 L ∧ Keep h0 h [a1, d1] ∧ Exa Z h a1 kS2 ∧ Fld Z h a1 kS0 "value" "[B" (.ref d1) ∧ Fld Z h a1 kS0 "coder" "B" (.int 0) ∧ Fld Z h a1 kS0 "count" "I" (.int 4) ∧ Arv Z h d1 kd .byte (16 : Int32) [(.int xe0), (.int xe1), (.int xe2), (.int xs0), (.int 0), (.int 0), (.int 0), (.int 0), (.int 0), (.int 0), (.int 0), (.int 0), (.int 0), (.int 0), (.int 0), (.int 0)] (.int 0)
theorem ef_rm_aa_1_3_16 (m : MethodId) (x0 : Addr) (x1 : Addr) : entryFrame m #[(.ref x0), (.ref x1)] 3 = mkF m 0 (la11 x0 x1) [] := by first | rfl | (simp [entryFrame, mkF, argsToLocals, Value.category]; done)
theorem rm_aa_1_3_16 (l : Launch) (Z : State) (a0 : Array Value) (hw : HW Z a0) (ws : List Jvm.Cond) (x1 : Addr) (t1 : Addr) (k1 : ClassId) (xs0 : Int32) (a1 : Addr) (d1 : Addr) (kd : ClassId) (xe0 : Int32) (xe1 : Int32) (xe2 : Int32) (z0 : Int32) (h0 : Heap) (n0 : Nat) (Z0 : n0 ≤ h0.size) (O0 : Old Z n0 h0) (Esx1 : Exa Z h0 x1 kS1) (Fcx1 : Fld Z h0 x1 kS1 "coder" "B" (.int 0)) (Fvx1 : Fld Z h0 x1 kS1 "value" "[B" (.ref t1)) (Vsx1 : Arv Z h0 t1 k1 .byte (1 : Int32) [(.int xs0)] (.int 0)) (Eb : Exa Z h0 a1 kS2) (Fbv : Fld Z h0 a1 kS0 "value" "[B" (.ref d1)) (Fbc : Fld Z h0 a1 kS0 "coder" "B" (.int 0)) (Fbn : Fld Z h0 a1 kS0 "count" "I" (.int 3)) (Vb : Arv Z h0 d1 kd .byte (16 : Int32) [(.int xe0), (.int xe1), (.int xe2), (.int 0), (.int 0), (.int 0), (.int 0), (.int 0), (.int 0), (.int 0), (.int 0), (.int 0), (.int 0), (.int 0), (.int 0), (.int 0)] (.int 0)) (SZc : Sta Z Z.heap kS1 "COMPACT_STRINGS" "Z" (.int z0)) (hz0 : ¬ z0 = 0) (ga : n0 ≤ a1) (gd : n0 ≤ d1) (ned : t1 ≠ d1) :
  OwnM l Z h0 (⟨kS0, "append", kS3⟩ : MethodName) (Jvm.Cond.code (⟨kS0, "append", kS3⟩ : MethodName) jdk_68_method_22_code 3 (some (.object kS0)) :: ws) (RM 3 0 0 47) #[(.ref a1), (.ref x1)] (Qrm_aa_1_3_16 Z x1 t1 k1 xs0 a1 d1 kd xe0 xe1 xe2 z0 h0 n0) := by
 refine MetFree.of_bodySF (plainFor_of_name pn_2) hisR ?_
 intro p e s m args below meth c s₁ Bd hml0 hP hK
 obtain ⟨rfl, hZ, hh⟩ := hP
 have hx := Bd.exec
 have hby := Bd.bytes
 have hml : c.maxLocals = 3 := hml0
 have hown : s.vm.findClass kS0 = some m.cls := findClass_of_methodNamed Bd.named
 have hnm := (name_of_methodNamed Bd.named Bd.method).1
 have X0 : Stand p l e (RM 3 0 0 47) s m #[(.ref a1), (.ref x1)] below meth c s₁ [] 0 0 := Stand.of_body Bd
 have e0 : s₁.heap = h0 := by rw [← hh, Bd.state]; rfl
 have N0 := Fr.nil n0
 have pre0 : ∀ t, GO p e below s₁ (mkF m 0 (la11 a1 x1) []) t → GO p e below s₁ (entryFrame m #[(.ref a1), (.ref x1)] 3) t := fun t k => castTop (ef_rm_aa_1_3_16 m a1 x1) k
 have lt_Esx1 := ltA Esx1.lt
 have lt_Fcx1 := ltA Fcx1.lt
 have lt_Fvx1 := ltA Fvx1.lt
 have lt_Vsx1 := ltA Vsx1.lt
 have lt_Eb := ltA Eb.lt
 have lt_Fbv := ltA Fbv.lt
 have lt_Fbc := ltA Fbc.lt
 have lt_Fbn := ltA Fbn.lt
 have lt_Vb := ltA Vb.lt
 -- pc 10: String.length by rm_sl1
 obtain ⟨cq572, kq572, q572a, q572b, q572c⟩ := isOf hZ e0 Esx1
 obtain ⟨_, _, ⟨T572, L572, k572, n572⟩, -, X572, ⟨Lc572, hQ572, l572, y572, z572⟩, st572⟩ := X0.virtualBack hx (y := (⟨kS1, "length", "()I"⟩ : MethodName)) (z := (⟨kS1, "length", "()I"⟩ : MethodName)) hown (mvT hZ (wd hw 54 rfl)) (mvT hZ (wd hw 55 rfl)) (notFace_of_selects (args := #[]) (mvT hZ (wd hw 57 rfl))) (mvT hZ (wd hw 57 rfl)) (mvT hZ (wd hw 56 rfl)) (by decide) (backOf (W := 0) (rm_sl1 l Z a0 hw [] x1 t1 k1 xs0 z0 h0 n0 (by omega) O0 Esx1 Fcx1 Fvx1 Vsx1 (by first | assumption | decide | omega) (by first | assumption | decide | omega)) hZ (wd hw 58 rfl) (wd hw 3 rfl) (by decide) (by decide)) q572a q572c (g := (mkF m 10 (la11 a1 x1) [(.ref x1)])) rfl (by rw [hml]; rfl) (Steps.refl _) (argsL := []) (rest := []) (lenOf pd_8 rfl) rfl (wz rfl) (hb hby d8_10) (fun _ _ => ⟨rfl, e0, (by decide : 0 + 0 ≤ _), (by decide : 0 + 0 ≤ _)⟩)
 dsimp only [Pt.U, Pt.locs, Pt.cells, Pt.slots] at X572 l572 y572 z572 st572 hQ572
 subst l572 y572 z572
 obtain ⟨rfl, N572q, e572⟩ := hQ572
 have N572 := Fr.app N0 N572q
 obtain ⟨T573, X573, e573, st573⟩ := getF X572 hx hZ hown (host := "") (Or.inl (wd hw 65 rfl)) Via.refl e572 Fbn (g := (mkF m 16 (la12 a1 x1 (1 : Int32)) [(.ref a1), (.ref a1)])) rfl rfl (hb hby d8_16)
 -- pc 21: AbstractStringBuilder.ensureCapacityInternal by rm_en_16
 obtain ⟨cq574, q574a, q574b⟩ := Eb.cell
 obtain ⟨_, _, ⟨T574, L574, k574, n574⟩, -, X574, ⟨Lc574, hQ574, l574, y574, z574⟩, st574⟩ := X573.privateBack hx (y := (⟨kS0, "ensureCapacityInternal", "(I)V"⟩ : MethodName)) hown (mvT hZ (wd hw 67 rfl)) (mvT hZ (wd hw 68 rfl)) (mvT hZ (own_selfsel (wd hw 70 rfl) (wd hw 69 rfl) (wd hw 68 rfl) (by decide))) (Cond.privateMethod_at (mvP hZ (wd hw 69 rfl) (args := #[]))) (mvT hZ (wd hw 71 rfl)) (by decide) (backOf (W := 0) (rm_en_16 l Z a0 hw [] a1 d1 kd ([(.int xe0), (.int xe1), (.int xe2), (.int 0), (.int 0), (.int 0), (.int 0), (.int 0), (.int 0), (.int 0), (.int 0), (.int 0), (.int 0), (.int 0), (.int 0), (.int 0)]) (4 : Int32) h0 n0 (by omega) Fbv Fbc Vb (by decide)) hZ (wd hw 71 rfl) (wd hw 36 rfl) (by decide) (by decide)) (g := (mkF m 21 (la12 a1 x1 (1 : Int32)) [(.int 4), (.ref a1)])) rfl (by rw [hml]; rfl) (Steps.refl _) (a := a1) (by rw [e573]; exact q574a) q574b (argsL := [(.int 4)]) (rest := []) (lenOf pd_5 rfl) rfl (wz rfl) (hb hby d8_21) (fun _ _ => ⟨rfl, e573, (by decide : 0 + 0 ≤ _), (by decide : 0 + 0 ≤ _)⟩)
 dsimp only [Pt.U, Pt.locs, Pt.cells, Pt.slots] at X574 l574 y574 z574 st574 hQ574
 subst l574 y574 z574
 obtain ⟨rfl, N574q, e574⟩ := hQ574
 have N574 := Fr.app N572 N574q
 obtain ⟨T575, X575, e575, st575⟩ := getF X574 hx hZ hown (host := "") (Or.inl (wd hw 65 rfl)) Via.refl e574 Fbn (g := (mkF m 26 (la12 a1 x1 (1 : Int32)) [(.ref a1), (.ref a1)])) rfl rfl (hb hby d8_26)
 -- pc 30: AbstractStringBuilder.putStringAt by rm_ps_1_3_16
 obtain ⟨cq576, q576a, q576b⟩ := Eb.cell
 obtain ⟨_, _, ⟨T576, L576, k576, n576⟩, -, X576, ⟨Lc576, hQ576, l576, y576, z576⟩, st576⟩ := X575.privateBack hx (y := (⟨kS0, "putStringAt", "(ILjava/lang/String;)V"⟩ : MethodName)) hown (mvT hZ (wd hw 72 rfl)) (mvT hZ (wd hw 73 rfl)) (mvT hZ (own_selfsel (wd hw 75 rfl) (wd hw 74 rfl) (wd hw 73 rfl) (by decide))) (Cond.privateMethod_at (mvP hZ (wd hw 74 rfl) (args := #[]))) (mvT hZ (wd hw 76 rfl)) (by decide) (backOf (W := 0) (rm_ps_1_3_16 l Z a0 hw [] x1 t1 k1 xs0 a1 d1 kd xe0 xe1 xe2 z0 h0 n0 (by omega) O0 Esx1 Fcx1 Fvx1 Vsx1 Eb Fbv Fbc Fbn Vb (by first | assumption | decide | omega) (by first | assumption | decide | omega) (by first | assumption | decide | omega) ned) hZ (wd hw 76 rfl) (wd hw 36 rfl) (by decide) (by decide)) (g := (mkF m 30 (la12 a1 x1 (1 : Int32)) [(.ref x1), (.int 3), (.ref a1)])) rfl (by rw [hml]; rfl) (Steps.refl _) (a := a1) (by rw [e575]; exact q576a) q576b (argsL := [(.int 3), (.ref x1)]) (rest := []) (lenOf pd_9 rfl) rfl (wz rfl) (hb hby d8_30) (fun _ _ => ⟨rfl, e575, (by decide : 0 + 0 ≤ _), (by decide : 0 + 0 ≤ _)⟩)
 dsimp only [Pt.U, Pt.locs, Pt.cells, Pt.slots] at X576 l576 y576 z576 st576 hQ576
 subst l576 y576 z576
 obtain ⟨h576, e576⟩ : ∃ z, T576.heap = z := ⟨_, rfl⟩
 rw [e576] at hQ576
 obtain ⟨rfl, N576q, K576, p576_0⟩ := hQ576
 have N576 := Fr.app N574 N576q
 have ne577 : d1 ≠ x1 := Ne.symm (Exa.neArv Esx1 Vb (wd hw 2 rfl))
 have ne578 : d1 ≠ a1 := Ne.symm (Exa.neArv Eb Vb (wd hw 27 rfl))
 have sz576 : h0.size ≤ h576.size := K576.1
 have lt576_0 := ltA p576_0.lt
 have f579 : Fld Z h576 a1 kS0 "count" "I" (.int 3) := (Fbn.keep K576 (ninS (Ne.symm ne578) nin0))
 obtain ⟨T580, X580, e580, st580⟩ := getF X576 hx hZ hown (host := "") (Or.inl (wd hw 65 rfl)) Via.refl e576 f579 (g := (mkF m 35 (la12 a1 x1 (1 : Int32)) [(.ref a1), (.ref a1)])) rfl rfl (hb hby d8_35)
 have f581 : Exa Z h576 a1 kS2 := (Eb.keep K576)
 obtain ⟨T582, h582, X582, e582, W582, st582⟩ := putF X580 hx hZ hown (host := "") (Or.inl (wd hw 65 rfl)) Via.refl e580 f579 f581 (Or.inl (wd hw 66 rfl)) (wd hw 27 rfl) (ty := .int) (by decide) rfl rfl (g := (mkF m 40 (la12 a1 x1 (1 : Int32)) [(.int 4), (.ref a1)])) rfl rfl (hb hby d8_40)
 have N582 := Fr.snoc X582 N576 (by omega : n0 ≤ a1)
 have f583 : Exa Z h576 x1 kS1 := (Esx1.keep K576)
 have ne584 : a1 ≠ x1 := ne_exa f581 f583 (by decide)
 have f585 : Arv Z h576 t1 k1 .byte (1 : Int32) [(.int xs0)] (.int 0) := (Vsx1.keep K576 (ninS ned nin0))
 have ne586 : a1 ≠ t1 := Exa.neArv f581 f585 (wd hw 27 rfl)
 have sz582 : h576.size ≤ h582.size := Nat.le_of_eq W582.size.symm
 have f582 : Fld Z h582 a1 kS0 "count" "I" (.int 4) := f579.same W582
 have f587 : Exa Z h582 a1 kS2 := (f581.wr W582)
 have f588 : Fld Z h582 a1 kS0 "value" "[B" (.ref d1) := ((Fbv.keep K576 (ninS (Ne.symm ne578) nin0)).other W582 (Or.inr (slot_ne (Or.inl (wd hw 41 rfl)) (Or.inl (wd hw 66 rfl)) (by decide) (t := (.array .byte)) (t' := .int) (by decide) (by decide))))
 have f589 : Fld Z h582 a1 kS0 "coder" "B" (.int 0) := ((Fbc.keep K576 (ninS (Ne.symm ne578) nin0)).other W582 (Or.inr (slot_ne (Or.inl (wd hw 43 rfl)) (Or.inl (wd hw 66 rfl)) (by decide) (t := .byte) (t' := .int) (by decide) (by decide))))
 have f590 : Arv Z h582 d1 kd .byte (16 : Int32) [(.int xe0), (.int xe1), (.int xe2), (.int xs0), (.int 0), (.int 0), (.int 0), (.int 0), (.int 0), (.int 0), (.int 0), (.int 0), (.int 0), (.int 0), (.int 0), (.int 0)] (.int 0) := (p576_0.other W582 ne578)
 obtain ⟨fs, hr, hrun, hended, hW, hsame⟩ := X582.leave (v := some (.ref a1)) (fun h => by rw [Bd.returns] at h; cases h)
 refine ⟨_, _, pre0 _ ?_, hrun, hended, _, _, rfl, ?_, ⟨_, rfl⟩, hW, hsame.mono (by decide) (by decide)⟩
 ·show GO p e below s₁ (mkF m 0 (la11 a1 x1) []) _
  refine XS.aloadN X0.here hx rfl (hb hby d8_0) rfl rfl ?_
  show GO p e below s₁ (mkF m 1 (la11 a1 x1) [(.ref x1)]) _
  refine XS.ifnonnullYes X0.here hx rfl (pc0 := 1) (pc' := 9) rfl (hb hby d8_1) rfl (by decide) (by decide) ?_
  show GO p e below s₁ (mkF m 9 (la11 a1 x1) []) _
  refine XS.aloadN X0.here hx rfl (hb hby d8_9) rfl rfl ?_
  show GO p e below s₁ (mkF m 10 (la11 a1 x1) [(.ref x1)]) _
  refine st572.trans ?_
  show GO p e below T572 (mkF m 13 (la11 a1 x1) [(.int 1)]) _
  refine XS.istoreN X572.here hx rfl (hb hby d8_13) rfl (l' := (la12 a1 x1 (1 : Int32))) rfl ?_
  show GO p e below T572 (mkF m 14 (la12 a1 x1 (1 : Int32)) []) _
  refine XS.aloadN X572.here hx rfl (hb hby d8_14) rfl rfl ?_
  show GO p e below T572 (mkF m 15 (la12 a1 x1 (1 : Int32)) [(.ref a1)]) _
  refine XS.aloadN X572.here hx rfl (hb hby d8_15) rfl rfl ?_
  show GO p e below T572 (mkF m 16 (la12 a1 x1 (1 : Int32)) [(.ref a1), (.ref a1)]) _
  refine st573 _ ?_
  show GO p e below T573 (mkF m 19 (la12 a1 x1 (1 : Int32)) [(.int 3), (.ref a1)]) _
  refine XS.iloadN X573.here hx rfl (hb hby d8_19) rfl ?_
  show GO p e below T573 (mkF m 20 (la12 a1 x1 (1 : Int32)) [(.int 1), (.int 3), (.ref a1)]) _
  refine XS.iadd X573.here hx rfl (hb hby d8_20) rfl ?_
  rw [show ((3 : Int32) + (1 : Int32)) = (4 : Int32) from by decide]
  show GO p e below T573 (mkF m 21 (la12 a1 x1 (1 : Int32)) [(.int 4), (.ref a1)]) _
  refine st574.trans ?_
  show GO p e below T574 (mkF m 24 (la12 a1 x1 (1 : Int32)) []) _
  refine XS.aloadN X574.here hx rfl (hb hby d8_24) rfl rfl ?_
  show GO p e below T574 (mkF m 25 (la12 a1 x1 (1 : Int32)) [(.ref a1)]) _
  refine XS.aloadN X574.here hx rfl (hb hby d8_25) rfl rfl ?_
  show GO p e below T574 (mkF m 26 (la12 a1 x1 (1 : Int32)) [(.ref a1), (.ref a1)]) _
  refine st575 _ ?_
  show GO p e below T575 (mkF m 29 (la12 a1 x1 (1 : Int32)) [(.int 3), (.ref a1)]) _
  refine XS.aloadN X575.here hx rfl (hb hby d8_29) rfl rfl ?_
  show GO p e below T575 (mkF m 30 (la12 a1 x1 (1 : Int32)) [(.ref x1), (.int 3), (.ref a1)]) _
  refine st576.trans ?_
  show GO p e below T576 (mkF m 33 (la12 a1 x1 (1 : Int32)) []) _
  refine XS.aloadN X576.here hx rfl (hb hby d8_33) rfl rfl ?_
  show GO p e below T576 (mkF m 34 (la12 a1 x1 (1 : Int32)) [(.ref a1)]) _
  refine XS.dup X576.here hx rfl (hb hby d8_34) rfl rfl ?_
  show GO p e below T576 (mkF m 35 (la12 a1 x1 (1 : Int32)) [(.ref a1), (.ref a1)]) _
  refine st580 _ ?_
  show GO p e below T580 (mkF m 38 (la12 a1 x1 (1 : Int32)) [(.int 3), (.ref a1)]) _
  refine XS.iloadN X580.here hx rfl (hb hby d8_38) rfl ?_
  show GO p e below T580 (mkF m 39 (la12 a1 x1 (1 : Int32)) [(.int 1), (.int 3), (.ref a1)]) _
  refine XS.iadd X580.here hx rfl (hb hby d8_39) rfl ?_
  rw [show ((3 : Int32) + (1 : Int32)) = (4 : Int32) from by decide]
  show GO p e below T580 (mkF m 40 (la12 a1 x1 (1 : Int32)) [(.int 4), (.ref a1)]) _
  refine st582 _ ?_
  show GO p e below T582 (mkF m 43 (la12 a1 x1 (1 : Int32)) []) _
  refine XS.aloadN X582.here hx rfl (hb hby d8_43) rfl rfl ?_
  show GO p e below T582 (mkF m 44 (la12 a1 x1 (1 : Int32)) [(.ref a1)]) _
  exact retOut X582 hx Bd.returns rfl (Or.inr (Or.inr (Or.inr (Or.inr ⟨rfl, rfl, rfl⟩)))) (hb hby d8_44) hr
 ·show Qrm_aa_1_3_16 Z x1 t1 k1 xs0 a1 d1 kd xe0 xe1 xe2 z0 h0 n0 _ T582.heap _
  rw [e582]
  exact ⟨rfl, N582, (((Keep.refl h0 [a1, d1]).trans K576 (allS (P := fun x => x ∈ _ ∨ _) (Or.inl (List.mem_of_getElem? (i := 1) rfl)) all0)).wr W582 (Or.inl (List.mem_of_getElem? (i := 0) rfl))), f587, f588, f589, f582, f590⟩
def Qrm_sa_1_3_16 (Z : State) (x1 : Addr) (t1 : Addr) (k1 : ClassId) (xs0 : Int32) (a1 : Addr) (d1 : Addr) (kd : ClassId) (xe0 : Int32) (xe1 : Int32) (xe2 : Int32) (z0 : Int32) (h0 : Heap) (n0 : Nat) (v : Option Value) (h : Heap) (L : List Loc) : Prop := v = some (.ref a1) ∧ Fr n0 L ∧ Keep h0 h [a1, d1] ∧ Exa Z h a1 kS2 ∧ Fld Z h a1 kS0 "value" "[B" (.ref d1) ∧ Fld Z h a1 kS0 "coder" "B" (.int 0) ∧ Fld Z h a1 kS0 "count" "I" (.int 4) ∧ Arv Z h d1 kd .byte (16 : Int32) [(.int xe0), (.int xe1), (.int xe2), (.int xs0), (.int 0), (.int 0), (.int 0), (.int 0), (.int 0), (.int 0), (.int 0), (.int 0), (.int 0), (.int 0), (.int 0), (.int 0)] (.int 0)
theorem ef_rm_sa_1_3_16 (m : MethodId) (x0 : Addr) (x1 : Addr) : entryFrame m #[(.ref x0), (.ref x1)] 2 = mkF m 0 #[.val (.ref x0), .val (.ref x1)] [] := by first | rfl | (simp [entryFrame, mkF, argsToLocals, Value.category]; done)
theorem rm_sa_1_3_16 (l : Launch) (Z : State) (a0 : Array Value) (hw : HW Z a0) (ws : List Jvm.Cond) (x1 : Addr) (t1 : Addr) (k1 : ClassId) (xs0 : Int32) (a1 : Addr) (d1 : Addr) (kd : ClassId) (xe0 : Int32) (xe1 : Int32) (xe2 : Int32) (z0 : Int32) (h0 : Heap) (n0 : Nat) (Z0 : n0 ≤ h0.size) (O0 : Old Z n0 h0) (Esx1 : Exa Z h0 x1 kS1) (Fcx1 : Fld Z h0 x1 kS1 "coder" "B" (.int 0)) (Fvx1 : Fld Z h0 x1 kS1 "value" "[B" (.ref t1)) (Vsx1 : Arv Z h0 t1 k1 .byte (1 : Int32) [(.int xs0)] (.int 0)) (Eb : Exa Z h0 a1 kS2) (Fbv : Fld Z h0 a1 kS0 "value" "[B" (.ref d1)) (Fbc : Fld Z h0 a1 kS0 "coder" "B" (.int 0)) (Fbn : Fld Z h0 a1 kS0 "count" "I" (.int 3)) (Vb : Arv Z h0 d1 kd .byte (16 : Int32) [(.int xe0), (.int xe1), (.int xe2), (.int 0), (.int 0), (.int 0), (.int 0), (.int 0), (.int 0), (.int 0), (.int 0), (.int 0), (.int 0), (.int 0), (.int 0), (.int 0)] (.int 0)) (SZc : Sta Z Z.heap kS1 "COMPACT_STRINGS" "Z" (.int z0)) (hz0 : ¬ z0 = 0) (ga : n0 ≤ a1) (gd : n0 ≤ d1) (ned : t1 ≠ d1) :
  OwnM l Z h0 (⟨kS2, "append", "(Ljava/lang/String;)Ljava/lang/StringBuilder;"⟩ : MethodName) (Jvm.Cond.code (⟨kS2, "append", "(Ljava/lang/String;)Ljava/lang/StringBuilder;"⟩ : MethodName) jdk_67_method_7_code 2 (some (.object kS2)) :: ws) (RM 4 0 0 61) #[(.ref a1), (.ref x1)] (Qrm_sa_1_3_16 Z x1 t1 k1 xs0 a1 d1 kd xe0 xe1 xe2 z0 h0 n0) := by
 refine MetFree.of_bodySF (plainFor_of_name pn_3) hisR ?_
 intro p e s m args below meth c s₁ Bd hml0 hP hK
 obtain ⟨rfl, hZ, hh⟩ := hP
 have hx := Bd.exec
 have hby := Bd.bytes
 have hml : c.maxLocals = 2 := hml0
 have hown : s.vm.findClass kS2 = some m.cls := findClass_of_methodNamed Bd.named
 have hnm := (name_of_methodNamed Bd.named Bd.method).1
 have X0 : Stand p l e (RM 4 0 0 61) s m #[(.ref a1), (.ref x1)] below meth c s₁ [] 0 0 := Stand.of_body Bd
 have e0 : s₁.heap = h0 := by rw [← hh, Bd.state]; rfl
 have N0 := Fr.nil n0
 have pre0 : ∀ t, GO p e below s₁ (mkF m 0 #[.val (.ref a1), .val (.ref x1)] []) t → GO p e below s₁ (entryFrame m #[(.ref a1), (.ref x1)] 2) t := fun t k => castTop (ef_rm_sa_1_3_16 m a1 x1) k
 have lt_Esx1 := ltA Esx1.lt
 have lt_Fcx1 := ltA Fcx1.lt
 have lt_Fvx1 := ltA Fvx1.lt
 have lt_Vsx1 := ltA Vsx1.lt
 have lt_Eb := ltA Eb.lt
 have lt_Fbv := ltA Fbv.lt
 have lt_Fbc := ltA Fbc.lt
 have lt_Fbn := ltA Fbn.lt
 have lt_Vb := ltA Vb.lt
 -- pc 2: AbstractStringBuilder.append by rm_aa_1_3_16
 obtain ⟨_, _, ⟨T591, L591, k591, n591⟩, -, X591, ⟨Lc591, hQ591, l591, y591, z591⟩, st591⟩ := superBack X0 hx hZ (y := (⟨kS0, "append", kS3⟩ : MethodName)) hown (wd hw 49 rfl) (own_sameM (y := (⟨kS0, "append", kS3⟩ : MethodName)) (wd hw 50 rfl) (wd hw 70 rfl) rfl (by decide)) (wd hw 50 rfl) (wd hw 51 rfl) (by decide) (backOf (W := 0) (rm_aa_1_3_16 l Z a0 hw [] x1 t1 k1 xs0 a1 d1 kd xe0 xe1 xe2 z0 h0 n0 (by omega) O0 Esx1 Fcx1 Fvx1 Vsx1 Eb Fbv Fbc Fbn Vb (by first | assumption | decide | omega) (by first | assumption | decide | omega) (by first | assumption | decide | omega) (by first | assumption | decide | omega) ned) hZ (wd hw 53 rfl) (wd hw 36 rfl) (by decide) (by decide)) e0 (Ins.self Eb) (g := (mkF m 2 #[.val (.ref a1), .val (.ref x1)] [(.ref x1), (.ref a1)])) rfl (by rw [hml]; rfl) (wd hw 53 rfl) (argsL := [(.ref x1)]) (rest := []) (lenOf pd_10 rfl) rfl (wz rfl) (hb hby d7_2) (fun _ _ => ⟨rfl, e0, (by decide : 0 + 0 ≤ _), (by decide : 0 + 0 ≤ _)⟩)
 dsimp only [Pt.U, Pt.locs, Pt.cells, Pt.slots] at X591 l591 y591 z591 st591 hQ591
 subst l591 y591 z591
 obtain ⟨h591, e591⟩ : ∃ z, T591.heap = z := ⟨_, rfl⟩
 rw [e591] at hQ591
 obtain ⟨rfl, N591q, K591, p591_0, p591_1, p591_2, p591_3, p591_4⟩ := hQ591
 have N591 := Fr.app N0 N591q
 have ne592 : a1 ≠ x1 := ne_exa Eb Esx1 (by decide)
 have ne593 : a1 ≠ t1 := Exa.neArv Eb Vsx1 (wd hw 27 rfl)
 have ne594 : a1 ≠ d1 := Exa.neArv Eb Vb (wd hw 27 rfl)
 have ne595 : d1 ≠ x1 := Ne.symm (Exa.neArv Esx1 Vb (wd hw 2 rfl))
 have sz591 : h0.size ≤ h591.size := K591.1
 have lt591_0 := ltA p591_0.lt
 have lt591_4 := ltA p591_4.lt
 obtain ⟨fs, hr, hrun, hended, hW, hsame⟩ := X591.leave (v := some (.ref a1)) (fun h => by rw [Bd.returns] at h; cases h)
 refine ⟨_, _, pre0 _ ?_, hrun, hended, _, _, rfl, ?_, ⟨_, rfl⟩, hW, hsame.mono (by decide) (by decide)⟩
 ·show GO p e below s₁ (mkF m 0 #[.val (.ref a1), .val (.ref x1)] []) _
  refine XS.aloadN X0.here hx rfl (hb hby d7_0) rfl rfl ?_
  show GO p e below s₁ (mkF m 1 #[.val (.ref a1), .val (.ref x1)] [(.ref a1)]) _
  refine XS.aloadN X0.here hx rfl (hb hby d7_1) rfl rfl ?_
  show GO p e below s₁ (mkF m 2 #[.val (.ref a1), .val (.ref x1)] [(.ref x1), (.ref a1)]) _
  refine st591.trans ?_
  show GO p e below T591 (mkF m 5 #[.val (.ref a1), .val (.ref x1)] [(.ref a1)]) _
  refine XS.pop X591.here hx rfl (hb hby d7_5) rfl rfl ?_
  show GO p e below T591 (mkF m 6 #[.val (.ref a1), .val (.ref x1)] []) _
  refine XS.aloadN X591.here hx rfl (hb hby d7_6) rfl rfl ?_
  show GO p e below T591 (mkF m 7 #[.val (.ref a1), .val (.ref x1)] [(.ref a1)]) _
  exact retOut X591 hx Bd.returns rfl (Or.inr (Or.inr (Or.inr (Or.inr ⟨rfl, rfl, rfl⟩)))) (hb hby d7_7) hr
 ·show Qrm_sa_1_3_16 Z x1 t1 k1 xs0 a1 d1 kd xe0 xe1 xe2 z0 h0 n0 _ T591.heap _
  rw [e591]
  exact ⟨rfl, N591, ((Keep.refl h0 [a1, d1]).trans K591 (allS (P := fun x => x ∈ _ ∨ _) (Or.inl (List.mem_of_getElem? (i := 0) rfl)) (allS (P := fun x => x ∈ _ ∨ _) (Or.inl (List.mem_of_getElem? (i := 1) rfl)) all0))), p591_0, p591_1, p591_2, p591_3, p591_4⟩
def Qrm_cl4 (Z : State)  (h0 : Heap) (n0 : Nat) (v : Option Value) (h : Heap) (L : List Loc) : Prop := v = none ∧ Fr n0 L ∧ h = h0
theorem ef_rm_cl4 (m : MethodId) (x0 : Int32) (x1 : Int32) : entryFrame m #[(.int x0), (.int x1)] 2 = mkF m 0 #[.val (.int x0), .val (.int x1)] [] := by first | rfl | (simp [entryFrame, mkF, argsToLocals, Value.category]; done)
theorem rm_cl4 (l : Launch) (Z : State) (a0 : Array Value) (hw : HW Z a0) (ws : List Jvm.Cond)  (h0 : Heap) (n0 : Nat) (Z0 : n0 ≤ h0.size) :
  OwnM l Z h0 (⟨"java/util/Arrays", "checkLength", "(II)V"⟩ : MethodName) (Jvm.Cond.code (⟨"java/util/Arrays", "checkLength", "(II)V"⟩ : MethodName) jdk_65_method_131_code 2 none :: ws) (RM 0 0 0 0) #[(.int 0), (.int 4)] (Qrm_cl4 Z  h0 n0) := by
 refine MetFree.of_bodySF (plainFor_of_name pn_4) hisR ?_
 intro p e s m args below meth c s₁ Bd hml0 hP hK
 obtain ⟨rfl, hZ, hh⟩ := hP
 have hx := Bd.exec
 have hby := Bd.bytes
 have hml : c.maxLocals = 2 := hml0
 have hown : s.vm.findClass "java/util/Arrays" = some m.cls := findClass_of_methodNamed Bd.named
 have hnm := (name_of_methodNamed Bd.named Bd.method).1
 have X0 : Stand p l e (RM 0 0 0 0) s m #[(.int 0), (.int 4)] below meth c s₁ [] 0 0 := Stand.of_body Bd
 have e0 : s₁.heap = h0 := by rw [← hh, Bd.state]; rfl
 have N0 := Fr.nil n0
 have pre0 : ∀ t, GO p e below s₁ (mkF m 0 #[.val (.int 0), .val (.int 4)] []) t → GO p e below s₁ (entryFrame m #[(.int 0), (.int 4)] 2) t := fun t k => castTop (ef_rm_cl4 m ((0 : Int32)) ((4 : Int32))) k
 obtain ⟨fs, hr, hrun, hended, hW, hsame⟩ := X0.leave (v := none) (fun _ => rfl)
 refine ⟨_, _, pre0 _ ?_, hrun, hended, _, _, rfl, ?_, ⟨_, rfl⟩, hW, hsame.mono (by decide) (by decide)⟩
 ·show GO p e below s₁ (mkF m 0 #[.val (.int 0), .val (.int 4)] []) _
  refine XS.iloadN X0.here hx rfl (hb hby d24_0) rfl ?_
  show GO p e below s₁ (mkF m 1 #[.val (.int 0), .val (.int 4)] [(.int 4)]) _
  refine XS.iloadN X0.here hx rfl (hb hby d24_1) rfl ?_
  show GO p e below s₁ (mkF m 2 #[.val (.int 0), .val (.int 4)] [(.int 0), (.int 4)]) _
  refine XS.icmpYes X0.here hx rfl (pc0 := 2) (pc' := 37) rfl (hb hby d24_2) rfl (flt ((by decide) : ¬ ((4 : Int32) < (0 : Int32)))).2.1 (by decide) (by decide) ?_
  show GO p e below s₁ (mkF m 37 #[.val (.int 0), .val (.int 4)] []) _
  exact X0.returnOut hx Bd.returns (hb hby d24_37) hr
 ·show Qrm_cl4 Z  h0 n0 _ s₁.heap _
  rw [e0]
  exact ⟨rfl, N0, rfl⟩
def Qrm_mi_16_4 (Z : State)  (h0 : Heap) (n0 : Nat) (v : Option Value) (h : Heap) (L : List Loc) : Prop := v = some (.int 4) ∧ Fr n0 L ∧ h = h0
theorem ef_rm_mi_16_4 (m : MethodId) (x0 : Int32) (x1 : Int32) : entryFrame m #[(.int x0), (.int x1)] 2 = mkF m 0 #[.val (.int x0), .val (.int x1)] [] := by first | rfl | (simp [entryFrame, mkF, argsToLocals, Value.category]; done)
theorem rm_mi_16_4 (l : Launch) (Z : State) (a0 : Array Value) (hw : HW Z a0) (ws : List Jvm.Cond)  (h0 : Heap) (n0 : Nat) (Z0 : n0 ≤ h0.size) :
  OwnM l Z h0 (⟨"java/lang/Math", "min", "(II)I"⟩ : MethodName) (Jvm.Cond.code (⟨"java/lang/Math", "min", "(II)I"⟩ : MethodName) jdk_29_method_69_code 2 (some .int) :: ws) (RM 0 0 0 0) #[(.int 16), (.int 4)] (Qrm_mi_16_4 Z  h0 n0) := by
 refine MetFree.of_bodySF (Jvm.Free.JP.mathPlain rfl (by decide +kernel)) hisR ?_
 intro p e s m args below meth c s₁ Bd hml0 hP hK
 obtain ⟨rfl, hZ, hh⟩ := hP
 have hx := Bd.exec
 have hby := Bd.bytes
 have hml : c.maxLocals = 2 := hml0
 have hown : s.vm.findClass "java/lang/Math" = some m.cls := findClass_of_methodNamed Bd.named
 have hnm := (name_of_methodNamed Bd.named Bd.method).1
 have X0 : Stand p l e (RM 0 0 0 0) s m #[(.int 16), (.int 4)] below meth c s₁ [] 0 0 := Stand.of_body Bd
 have e0 : s₁.heap = h0 := by rw [← hh, Bd.state]; rfl
 have N0 := Fr.nil n0
 have pre0 : ∀ t, GO p e below s₁ (mkF m 0 #[.val (.int 16), .val (.int 4)] []) t → GO p e below s₁ (entryFrame m #[(.int 16), (.int 4)] 2) t := fun t k => castTop (ef_rm_mi_16_4 m ((16 : Int32)) ((4 : Int32))) k
 obtain ⟨fs, hr, hrun, hended, hW, hsame⟩ := X0.leave (v := some (.int 4)) (fun h => by rw [Bd.returns] at h; cases h)
 refine ⟨_, _, pre0 _ ?_, hrun, hended, _, _, rfl, ?_, ⟨_, rfl⟩, hW, hsame.mono (by decide) (by decide)⟩
 ·show GO p e below s₁ (mkF m 0 #[.val (.int 16), .val (.int 4)] []) _
  refine XS.iloadN X0.here hx rfl (hb hby d25_0) rfl ?_
  show GO p e below s₁ (mkF m 1 #[.val (.int 16), .val (.int 4)] [(.int 16)]) _
  refine XS.iloadN X0.here hx rfl (hb hby d25_1) rfl ?_
  show GO p e below s₁ (mkF m 2 #[.val (.int 16), .val (.int 4)] [(.int 4), (.int 16)]) _
  refine XS.icmpYes X0.here hx rfl (pc0 := 2) (pc' := 9) rfl (hb hby d25_2) rfl (tlt ((by decide) : (4 : Int32) < (16 : Int32))).2.2.1 (by decide) (by decide) ?_
  show GO p e below s₁ (mkF m 9 #[.val (.int 16), .val (.int 4)] []) _
  refine XS.iloadN X0.here hx rfl (hb hby d25_9) rfl ?_
  show GO p e below s₁ (mkF m 10 #[.val (.int 16), .val (.int 4)] [(.int 4)]) _
  exact retI X0 hx Bd.returns (hb hby d25_10) hr
 ·show Qrm_mi_16_4 Z  h0 n0 _ s₁.heap _
  rw [e0]
  exact ⟨rfl, N0, rfl⟩
def Qrm_cb_4_16 (Z : State) (d1 : Addr) (kd : ClassId) (xe0 : Int32) (xe1 : Int32) (xe2 : Int32) (xe3 : Int32) (h0 : Heap) (n0 : Nat) (v : Option Value) (h : Heap) (L : List Loc) : Prop := ∃ t : Addr, ∃ k : ClassId, v = some (.ref t) ∧ Fr n0 L ∧ Keep h0 h [] ∧ Exa Z h t "[B" ∧ Arv Z h t k .byte (4 : Int32) [(.int xe0), (.int xe1), (.int xe2), (.int xe3)] (.int 0) ∧ h0.size ≤ t
theorem ef_rm_cb_4_16 (m : MethodId) (x0 : Addr) (x1 : Int32) (x2 : Int32) : entryFrame m #[(.ref x0), (.int x1), (.int x2)] 5 = mkF m 0 (la1 x0 x1 x2) [] := by first | rfl | (simp [entryFrame, mkF, argsToLocals, Value.category]; done)
theorem rm_cb_4_16 (l : Launch) (Z : State) (a0 : Array Value) (hw : HW Z a0) (ws : List Jvm.Cond) (d1 : Addr) (kd : ClassId) (xe0 : Int32) (xe1 : Int32) (xe2 : Int32) (xe3 : Int32) (h0 : Heap) (n0 : Nat) (Z0 : n0 ≤ h0.size) (Vd : Arv Z h0 d1 kd .byte (16 : Int32) [(.int xe0), (.int xe1), (.int xe2), (.int xe3), (.int 0), (.int 0), (.int 0), (.int 0), (.int 0), (.int 0), (.int 0), (.int 0), (.int 0), (.int 0), (.int 0), (.int 0)] (.int 0)) :
  OwnM l Z h0 (⟨"java/util/Arrays", "copyOfRangeByte", "([BII)[B"⟩ : MethodName) (Jvm.Cond.code (⟨"java/util/Arrays", "copyOfRangeByte", "([BII)[B"⟩ : MethodName) jdk_65_method_133_code 5 (some (.array .byte)) :: ws) (RM 1 1 4 18) #[(.ref d1), (.int 0), (.int 4)] (Qrm_cb_4_16 Z d1 kd xe0 xe1 xe2 xe3 h0 n0) := by
 refine MetFree.of_bodySF (plainFor_of_name pn_4) hisR ?_
 intro p e s m args below meth c s₁ Bd hml0 hP hK
 obtain ⟨rfl, hZ, hh⟩ := hP
 have hx := Bd.exec
 have hby := Bd.bytes
 have hml : c.maxLocals = 5 := hml0
 have hown : s.vm.findClass "java/util/Arrays" = some m.cls := findClass_of_methodNamed Bd.named
 have hnm := (name_of_methodNamed Bd.named Bd.method).1
 have X0 : Stand p l e (RM 1 1 4 18) s m #[(.ref d1), (.int 0), (.int 4)] below meth c s₁ [] 0 0 := Stand.of_body Bd
 have e0 : s₁.heap = h0 := by rw [← hh, Bd.state]; rfl
 have N0 := Fr.nil n0
 have pre0 : ∀ t, GO p e below s₁ (mkF m 0 (la1 d1 (0 : Int32) (4 : Int32)) []) t → GO p e below s₁ (entryFrame m #[(.ref d1), (.int 0), (.int 4)] 5) t := fun t k => castTop (ef_rm_cb_4_16 m d1 ((0 : Int32)) ((4 : Int32))) k
 have lt_Vd := ltA Vd.lt
 -- pc 2: Arrays.checkLength by rm_cl4
 obtain ⟨_, _, ⟨T596, L596, k596, n596⟩, -, X596, ⟨Lc596, hQ596, l596, y596, z596⟩, st596⟩ := Jvm.LawKit.callS X0 hx (y := (⟨"java/util/Arrays", "checkLength", "(II)V"⟩ : MethodName)) hown (mvT hZ (wd hw 130 rfl)) (mvT hZ (wd hw 131 rfl)) (mvT hZ (wd hw 125 rfl)) (mvT hZ (wd hw 132 rfl)) (by decide) (backOf (W := 0) (rm_cl4 l Z a0 hw []  h0 n0 (by omega)) hZ (wd hw 132 rfl) (wd hw 125 rfl) (by decide) (by decide)) (g := (mkF m 2 (la1 d1 (0 : Int32) (4 : Int32)) [(.int 4), (.int 0)])) rfl (by rw [hml]; rfl) (argsL := [(.int 0), (.int 4)]) (rest := []) (lenOf pd_11 rfl) rfl (wz rfl) (hb hby d23_2) (fun _ _ => ⟨rfl, e0, (by decide : 0 + 0 ≤ _), (by decide : 0 + 0 ≤ _)⟩)
 dsimp only [Pt.U, Pt.locs, Pt.cells, Pt.slots] at X596 l596 y596 z596 st596 hQ596
 subst l596 y596 z596
 obtain ⟨rfl, N596q, e596⟩ := hQ596
 have N596 := Fr.app N0 N596q
 obtain ⟨T597, h597, k597, X597, e597, E597, A597, Q597, st597⟩ := newPE (ad := "[B") X596 hx hZ (wd hw 15 rfl) e596 (g := (mkF m 10 (la2 d1 (0 : Int32) (4 : Int32) (4 : Int32)) [(.int 4)])) rfl (hb hby d23_10) rfl (by decide) (cap := 4) (by decide) (by decide) (by decide) (by decide) (by decide)
 obtain ⟨b597, g597⟩ : ∃ z, z = h0.size := ⟨_, rfl⟩
 rw [← g597] at A597 st597 Q597
 have sz597 : h0.size ≤ h597.size := E597.1
 have lt597 := ltA A597.lt
 have V597 : Arv Z h597 b597 k597 .byte (4 : Int32) [(.int 0), (.int 0), (.int 0), (.int 0)] (.int 0) := (Arv.new A597 (by decide)).pad (pad_rep [] (.int 0) 4)
 have f598 : Arv Z h597 d1 kd .byte (16 : Int32) [(.int xe0), (.int xe1), (.int xe2), (.int xe3), (.int 0), (.int 0), (.int 0), (.int 0), (.int 0), (.int 0), (.int 0), (.int 0), (.int 0), (.int 0), (.int 0), (.int 0)] (.int 0) := (Vd.ext E597)
 obtain ⟨cl599, Ar599, -, S599, M599, -, -⟩ := id f598
 -- pc 24: Math.min by rm_mi_16_4
 obtain ⟨_, _, ⟨T600, L600, k600, n600⟩, -, X600, ⟨Lc600, hQ600, l600, y600, z600⟩, st600⟩ := Jvm.LawKit.callS X597 hx (y := (⟨"java/lang/Math", "min", "(II)I"⟩ : MethodName)) hown (mvT hZ (wd hw 133 rfl)) (mvT hZ (wd hw 134 rfl)) (mvT hZ (wd hw 135 rfl)) (mvT hZ (wd hw 136 rfl)) (by decide) (backOf (W := 4) (rm_mi_16_4 l Z a0 hw []  h597 n0 (by omega)) hZ (wd hw 136 rfl) (wd hw 135 rfl) (by decide) (by decide)) (g := (mkF m 24 (la13 d1 (0 : Int32) (4 : Int32) (4 : Int32) b597) [(.int 4), (.int 16), (.int 0), (.ref b597), (.int 0), (.ref d1)])) rfl (by rw [hml]; rfl) (argsL := [(.int 16), (.int 4)]) (rest := [(.int 0), (.ref b597), (.int 0), (.ref d1)]) (lenOf pd_12 rfl) rfl (wz rfl) (hb hby d23_24) (fun _ _ => ⟨rfl, e597, (by decide : 1 + 0 ≤ _), (by decide : 4 + 0 ≤ _)⟩)
 dsimp only [Pt.U, Pt.locs, Pt.cells, Pt.slots] at X600 l600 y600 z600 st600 hQ600
 subst l600 y600 z600
 obtain ⟨rfl, N600q, e600⟩ := hQ600
 have N600 := Fr.app N596 N600q
 obtain ⟨T601, h601, L601, X601, e601, N601, K601, A601, st601⟩ := cpA X600 hx hZ hown (wd hw 137 rfl) (wd hw 91 rfl) (wd hw 89 rfl) (wd hw 90 rfl) e600 f598 V597 (us := [(.int xe0), (.int xe1), (.int xe2), (.int xe3)]) (Or.inl ⟨rfl, rfl⟩) (by decide) (by decide) (by decide) (by decide) (by decide) rfl (Nat.le_of_ble_eq_true rfl) N600 (by omega) (g := (mkF m 27 (la13 d1 (0 : Int32) (4 : Int32) (4 : Int32) b597) [(.int 4), (.int 0), (.ref b597), (.int 0), (.ref d1)])) rfl (by rw [hml]; rfl) rfl (hb hby d23_27) (by decide) (W := 0) (wz rfl) (by decide)
 have sz601 : h597.size ≤ h601.size := K601.1
 have V601 : Arv Z h601 b597 k597 .byte (4 : Int32) [(.int xe0), (.int xe1), (.int xe2), (.int xe3)] (.int 0) := A601
 have f602 : Exa Z h601 b597 "[B" := (Q597.keep K601)
 obtain ⟨fs, hr, hrun, hended, hW, hsame⟩ := X601.leave (v := some (.ref b597)) (fun h => by rw [Bd.returns] at h; cases h)
 refine ⟨_, _, pre0 _ ?_, hrun, hended, _, _, rfl, ?_, ⟨_, rfl⟩, hW, hsame.mono (by decide) (by decide)⟩
 ·show GO p e below s₁ (mkF m 0 (la1 d1 (0 : Int32) (4 : Int32)) []) _
  refine XS.iloadN X0.here hx rfl (hb hby d23_0) rfl ?_
  show GO p e below s₁ (mkF m 1 (la1 d1 (0 : Int32) (4 : Int32)) [(.int 0)]) _
  refine XS.iloadN X0.here hx rfl (hb hby d23_1) rfl ?_
  show GO p e below s₁ (mkF m 2 (la1 d1 (0 : Int32) (4 : Int32)) [(.int 4), (.int 0)]) _
  refine st596 _ ?_
  show GO p e below T596 (mkF m 5 (la1 d1 (0 : Int32) (4 : Int32)) []) _
  refine XS.iloadN X596.here hx rfl (hb hby d23_5) rfl ?_
  show GO p e below T596 (mkF m 6 (la1 d1 (0 : Int32) (4 : Int32)) [(.int 4)]) _
  refine XS.iloadN X596.here hx rfl (hb hby d23_6) rfl ?_
  show GO p e below T596 (mkF m 7 (la1 d1 (0 : Int32) (4 : Int32)) [(.int 0), (.int 4)]) _
  refine XS.isub X596.here hx rfl (hb hby d23_7) rfl ?_
  rw [show ((4 : Int32) - (0 : Int32)) = (4 : Int32) from by decide]
  show GO p e below T596 (mkF m 8 (la1 d1 (0 : Int32) (4 : Int32)) [(.int 4)]) _
  refine XS.istoreN X596.here hx rfl (hb hby d23_8) rfl (l' := (la2 d1 (0 : Int32) (4 : Int32) (4 : Int32))) rfl ?_
  show GO p e below T596 (mkF m 9 (la2 d1 (0 : Int32) (4 : Int32) (4 : Int32)) []) _
  refine XS.iloadN X596.here hx rfl (hb hby d23_9) rfl ?_
  show GO p e below T596 (mkF m 10 (la2 d1 (0 : Int32) (4 : Int32) (4 : Int32)) [(.int 4)]) _
  refine st597 _ ?_
  show GO p e below T597 (mkF m 12 (la2 d1 (0 : Int32) (4 : Int32) (4 : Int32)) [(.ref b597)]) _
  refine XS.astore X597.here hx rfl (hb hby d23_12) rfl rfl (l' := (la13 d1 (0 : Int32) (4 : Int32) (4 : Int32) b597)) rfl ?_
  show GO p e below T597 (mkF m 14 (la13 d1 (0 : Int32) (4 : Int32) (4 : Int32) b597) []) _
  refine XS.aloadN X597.here hx rfl (hb hby d23_14) rfl rfl ?_
  show GO p e below T597 (mkF m 15 (la13 d1 (0 : Int32) (4 : Int32) (4 : Int32) b597) [(.ref d1)]) _
  refine XS.iloadN X597.here hx rfl (hb hby d23_15) rfl ?_
  show GO p e below T597 (mkF m 16 (la13 d1 (0 : Int32) (4 : Int32) (4 : Int32) b597) [(.int 0), (.ref d1)]) _
  refine XS.aload X597.here hx rfl (hb hby d23_16) rfl rfl ?_
  show GO p e below T597 (mkF m 18 (la13 d1 (0 : Int32) (4 : Int32) (4 : Int32) b597) [(.ref b597), (.int 0), (.ref d1)]) _
  refine XS.iconst X597.here hx rfl (hb hby d23_18) ?_
  show GO p e below T597 (mkF m 19 (la13 d1 (0 : Int32) (4 : Int32) (4 : Int32) b597) [(.int 0), (.ref b597), (.int 0), (.ref d1)]) _
  refine XS.aloadN X597.here hx rfl (hb hby d23_19) rfl rfl ?_
  show GO p e below T597 (mkF m 20 (la13 d1 (0 : Int32) (4 : Int32) (4 : Int32) b597) [(.ref d1), (.int 0), (.ref b597), (.int 0), (.ref d1)]) _
  refine X597.arraylength hx (by rw [e597]; exact Ar599.1) (State.isArrayOf_alike hZ.alike Ar599.2.1) (g := (mkF m 20 (la13 d1 (0 : Int32) (4 : Int32) (4 : Int32) b597) [(.ref d1), (.int 0), (.ref b597), (.int 0), (.ref d1)])) rfl rfl (hb hby d23_20) _ ?_
  rw [len_of S599 M599]
  show GO p e below T597 (mkF m 21 (la13 d1 (0 : Int32) (4 : Int32) (4 : Int32) b597) [(.int 16), (.int 0), (.ref b597), (.int 0), (.ref d1)]) _
  refine XS.iloadN X597.here hx rfl (hb hby d23_21) rfl ?_
  show GO p e below T597 (mkF m 22 (la13 d1 (0 : Int32) (4 : Int32) (4 : Int32) b597) [(.int 0), (.int 16), (.int 0), (.ref b597), (.int 0), (.ref d1)]) _
  refine XS.isub X597.here hx rfl (hb hby d23_22) rfl ?_
  rw [show ((16 : Int32) - (0 : Int32)) = (16 : Int32) from by decide]
  show GO p e below T597 (mkF m 23 (la13 d1 (0 : Int32) (4 : Int32) (4 : Int32) b597) [(.int 16), (.int 0), (.ref b597), (.int 0), (.ref d1)]) _
  refine XS.iloadN X597.here hx rfl (hb hby d23_23) rfl ?_
  show GO p e below T597 (mkF m 24 (la13 d1 (0 : Int32) (4 : Int32) (4 : Int32) b597) [(.int 4), (.int 16), (.int 0), (.ref b597), (.int 0), (.ref d1)]) _
  refine st600 _ ?_
  show GO p e below T600 (mkF m 27 (la13 d1 (0 : Int32) (4 : Int32) (4 : Int32) b597) [(.int 4), (.int 0), (.ref b597), (.int 0), (.ref d1)]) _
  refine st601 _ ?_
  show GO p e below T601 (mkF m 30 (la13 d1 (0 : Int32) (4 : Int32) (4 : Int32) b597) []) _
  refine XS.aload X601.here hx rfl (hb hby d23_30) rfl rfl ?_
  show GO p e below T601 (mkF m 32 (la13 d1 (0 : Int32) (4 : Int32) (4 : Int32) b597) [(.ref b597)]) _
  exact retOut X601 hx Bd.returns rfl (Or.inr (Or.inr (Or.inr (Or.inr ⟨rfl, rfl, rfl⟩)))) (hb hby d23_32) hr
 ·show Qrm_cb_4_16 Z d1 kd xe0 xe1 xe2 xe3 h0 n0 _ T601.heap _
  rw [e601]
  exact ⟨b597, k597, rfl, N601, (((Keep.refl h0 []).ext E597).trans K601 (allS (P := fun x => x ∈ _ ∨ _) (Or.inr (by omega)) all0)), f602, V601, (by omega)⟩
def Qrm_cr_4_16 (Z : State) (d1 : Addr) (kd : ClassId) (xe0 : Int32) (xe1 : Int32) (xe2 : Int32) (xe3 : Int32) (h0 : Heap) (n0 : Nat) (v : Option Value) (h : Heap) (L : List Loc) : Prop := ∃ t : Addr, ∃ k : ClassId, v = some (.ref t) ∧ Fr n0 L ∧ Keep h0 h [] ∧ Exa Z h t "[B" ∧ Arv Z h t k .byte (4 : Int32) [(.int xe0), (.int xe1), (.int xe2), (.int xe3)] (.int 0) ∧ h0.size ≤ t
theorem ef_rm_cr_4_16 (m : MethodId) (x0 : Addr) (x1 : Int32) (x2 : Int32) : entryFrame m #[(.ref x0), (.int x1), (.int x2)] 3 = mkF m 0 (la9 x0 x1 x2) [] := by first | rfl | (simp [entryFrame, mkF, argsToLocals, Value.category]; done)
theorem rm_cr_4_16 (l : Launch) (Z : State) (a0 : Array Value) (hw : HW Z a0) (ws : List Jvm.Cond) (d1 : Addr) (kd : ClassId) (xe0 : Int32) (xe1 : Int32) (xe2 : Int32) (xe3 : Int32) (h0 : Heap) (n0 : Nat) (Z0 : n0 ≤ h0.size) (Vd : Arv Z h0 d1 kd .byte (16 : Int32) [(.int xe0), (.int xe1), (.int xe2), (.int xe3), (.int 0), (.int 0), (.int 0), (.int 0), (.int 0), (.int 0), (.int 0), (.int 0), (.int 0), (.int 0), (.int 0), (.int 0)] (.int 0)) :
  OwnM l Z h0 (⟨"java/util/Arrays", "copyOfRange", "([BII)[B"⟩ : MethodName) (Jvm.Cond.code (⟨"java/util/Arrays", "copyOfRange", "([BII)[B"⟩ : MethodName) jdk_65_method_132_code 3 (some (.array .byte)) :: ws) (RM 2 1 4 34) #[(.ref d1), (.int 0), (.int 4)] (Qrm_cr_4_16 Z d1 kd xe0 xe1 xe2 xe3 h0 n0) := by
 refine MetFree.of_bodySF (plainFor_of_name pn_4) hisR ?_
 intro p e s m args below meth c s₁ Bd hml0 hP hK
 obtain ⟨rfl, hZ, hh⟩ := hP
 have hx := Bd.exec
 have hby := Bd.bytes
 have hml : c.maxLocals = 3 := hml0
 have hown : s.vm.findClass "java/util/Arrays" = some m.cls := findClass_of_methodNamed Bd.named
 have hnm := (name_of_methodNamed Bd.named Bd.method).1
 have X0 : Stand p l e (RM 2 1 4 34) s m #[(.ref d1), (.int 0), (.int 4)] below meth c s₁ [] 0 0 := Stand.of_body Bd
 have e0 : s₁.heap = h0 := by rw [← hh, Bd.state]; rfl
 have N0 := Fr.nil n0
 have pre0 : ∀ t, GO p e below s₁ (mkF m 0 (la9 d1 (0 : Int32) (4 : Int32)) []) t → GO p e below s₁ (entryFrame m #[(.ref d1), (.int 0), (.int 4)] 3) t := fun t k => castTop (ef_rm_cr_4_16 m d1 ((0 : Int32)) ((4 : Int32))) k
 have lt_Vd := ltA Vd.lt
 obtain ⟨cl603, Ar603, -, S603, M603, -, -⟩ := id Vd
 -- pc 13: Arrays.copyOfRangeByte by rm_cb_4_16
 obtain ⟨_, _, ⟨T604, L604, k604, n604⟩, -, X604, ⟨Lc604, hQ604, l604, y604, z604⟩, st604⟩ := Jvm.LawKit.callS X0 hx (y := (⟨"java/util/Arrays", "copyOfRangeByte", "([BII)[B"⟩ : MethodName)) hown (mvT hZ (wd hw 127 rfl)) (mvT hZ (wd hw 128 rfl)) (mvT hZ (wd hw 125 rfl)) (mvT hZ (wd hw 129 rfl)) (by decide) (backOf (W := 0) (rm_cb_4_16 l Z a0 hw [] d1 kd xe0 xe1 xe2 xe3 h0 n0 (by omega) Vd) hZ (wd hw 129 rfl) (wd hw 125 rfl) (by decide) (by decide)) (g := (mkF m 13 (la9 d1 (0 : Int32) (4 : Int32)) [(.int 4), (.int 0), (.ref d1)])) rfl (by rw [hml]; rfl) (argsL := [(.ref d1), (.int 0), (.int 4)]) (rest := []) (lenOf pd_13 rfl) rfl (wz rfl) (hb hby d22_13) (fun _ _ => ⟨rfl, e0, (by decide : 0 + 1 ≤ _), (by decide : 0 + 4 ≤ _)⟩)
 dsimp only [Pt.U, Pt.locs, Pt.cells, Pt.slots] at X604 l604 y604 z604 st604 hQ604
 subst l604 y604 z604
 obtain ⟨h604, e604⟩ : ∃ z, T604.heap = z := ⟨_, rfl⟩
 rw [e604] at hQ604
 obtain ⟨t_604, k_604, rfl, N604q, K604, p604_0, p604_1, r604_0⟩ := hQ604
 have N604 := Fr.app N0 N604q
 have sz604 : h0.size ≤ h604.size := K604.1
 have lt604_0 := ltA p604_0.lt
 have lt604_1 := ltA p604_1.lt
 obtain ⟨fs, hr, hrun, hended, hW, hsame⟩ := X604.leave (v := some (.ref t_604)) (fun h => by rw [Bd.returns] at h; cases h)
 refine ⟨_, _, pre0 _ ?_, hrun, hended, _, _, rfl, ?_, ⟨_, rfl⟩, hW, hsame.mono (by decide) (by decide)⟩
 ·show GO p e below s₁ (mkF m 0 (la9 d1 (0 : Int32) (4 : Int32)) []) _
  refine XS.iloadN X0.here hx rfl (hb hby d22_0) rfl ?_
  show GO p e below s₁ (mkF m 1 (la9 d1 (0 : Int32) (4 : Int32)) [(.int 0)]) _
  refine XS.ifNo X0.here hx rfl (hb hby d22_1) rfl ((if0 _ _).trans (teq (rfl : (0 : Int32) = (0 : Int32))).2) ?_
  show GO p e below s₁ (mkF m 4 (la9 d1 (0 : Int32) (4 : Int32)) []) _
  refine XS.iloadN X0.here hx rfl (hb hby d22_4) rfl ?_
  show GO p e below s₁ (mkF m 5 (la9 d1 (0 : Int32) (4 : Int32)) [(.int 4)]) _
  refine XS.aloadN X0.here hx rfl (hb hby d22_5) rfl rfl ?_
  show GO p e below s₁ (mkF m 6 (la9 d1 (0 : Int32) (4 : Int32)) [(.ref d1), (.int 4)]) _
  refine X0.arraylength hx (by rw [e0]; exact Ar603.1) (State.isArrayOf_alike hZ.alike Ar603.2.1) (g := (mkF m 6 (la9 d1 (0 : Int32) (4 : Int32)) [(.ref d1), (.int 4)])) rfl rfl (hb hby d22_6) _ ?_
  rw [len_of S603 M603]
  show GO p e below s₁ (mkF m 7 (la9 d1 (0 : Int32) (4 : Int32)) [(.int 16), (.int 4)]) _
  refine XS.icmpNo X0.here hx rfl (hb hby d22_7) rfl (feq ((by decide) : ¬ ((4 : Int32) = (16 : Int32)))).1 ?_
  show GO p e below s₁ (mkF m 10 (la9 d1 (0 : Int32) (4 : Int32)) []) _
  refine XS.aloadN X0.here hx rfl (hb hby d22_10) rfl rfl ?_
  show GO p e below s₁ (mkF m 11 (la9 d1 (0 : Int32) (4 : Int32)) [(.ref d1)]) _
  refine XS.iloadN X0.here hx rfl (hb hby d22_11) rfl ?_
  show GO p e below s₁ (mkF m 12 (la9 d1 (0 : Int32) (4 : Int32)) [(.int 0), (.ref d1)]) _
  refine XS.iloadN X0.here hx rfl (hb hby d22_12) rfl ?_
  show GO p e below s₁ (mkF m 13 (la9 d1 (0 : Int32) (4 : Int32)) [(.int 4), (.int 0), (.ref d1)]) _
  refine st604 _ ?_
  show GO p e below T604 (mkF m 16 (la9 d1 (0 : Int32) (4 : Int32)) [(.ref t_604)]) _
  exact retOut X604 hx Bd.returns rfl (Or.inr (Or.inr (Or.inr (Or.inr ⟨rfl, rfl, rfl⟩)))) (hb hby d22_16) hr
 ·show Qrm_cr_4_16 Z d1 kd xe0 xe1 xe2 xe3 h0 n0 _ T604.heap _
  rw [e604]
  exact ⟨t_604, k_604, rfl, N604, ((Keep.refl h0 []).trans K604 all0), p604_0, p604_1, r604_0⟩
def Qrm_si2_4_16 (Z : State) (x1 : Addr) (u1 : Value) (u2 : Value) (a1 : Addr) (d1 : Addr) (kd : ClassId) (xe0 : Int32) (xe1 : Int32) (xe2 : Int32) (xe3 : Int32) (z0 : Int32) (h0 : Heap) (n0 : Nat) (v : Option Value) (h : Heap) (L : List Loc) : Prop := ∃ t : Addr, ∃ k : ClassId, v = none ∧ Fr n0 L ∧ Keep h0 h [x1] ∧ Exa Z h x1 kS1 ∧ Fld Z h x1 kS1 "coder" "B" (.int 0) ∧ Fld Z h x1 kS1 "value" "[B" (.ref t) ∧ Exa Z h t "[B" ∧ Arv Z h t k .byte (4 : Int32) [(.int xe0), (.int xe1), (.int xe2), (.int xe3)] (.int 0) ∧ h0.size ≤ t
theorem ef_rm_si2_4_16 (m : MethodId) (x0 : Addr) (x1 : Addr) : entryFrame m #[(.ref x0), (.ref x1), .null] 5 = mkF m 0 (la14 x0 x1) [] := by first | rfl | (simp [entryFrame, mkF, argsToLocals, Value.category]; done)
theorem rm_si2_4_16 (l : Launch) (Z : State) (a0 : Array Value) (hw : HW Z a0) (ws : List Jvm.Cond) (x1 : Addr) (u1 : Value) (u2 : Value) (a1 : Addr) (d1 : Addr) (kd : ClassId) (xe0 : Int32) (xe1 : Int32) (xe2 : Int32) (xe3 : Int32) (z0 : Int32) (h0 : Heap) (n0 : Nat) (Z0 : n0 ≤ h0.size) (O0 : Old Z n0 h0) (Es : Exa Z h0 x1 kS1) (Fv1 : Fld Z h0 x1 kS1 "value" "[B" u1) (Fc1 : Fld Z h0 x1 kS1 "coder" "B" u2) (Eb : Exa Z h0 a1 kS2) (Fbv : Fld Z h0 a1 kS0 "value" "[B" (.ref d1)) (Fbc : Fld Z h0 a1 kS0 "coder" "B" (.int 0)) (Fbn : Fld Z h0 a1 kS0 "count" "I" (.int 4)) (Vb : Arv Z h0 d1 kd .byte (16 : Int32) [(.int xe0), (.int xe1), (.int xe2), (.int xe3), (.int 0), (.int 0), (.int 0), (.int 0), (.int 0), (.int 0), (.int 0), (.int 0), (.int 0), (.int 0), (.int 0), (.int 0)] (.int 0)) (SZc : Sta Z Z.heap kS1 "COMPACT_STRINGS" "Z" (.int z0)) (hz0 : ¬ z0 = 0) (gx : n0 ≤ x1) :
  OwnM l Z h0 (⟨kS1, "<init>", "(Ljava/lang/AbstractStringBuilder;Ljava/lang/Void;)V"⟩ : MethodName) (Jvm.Cond.code (⟨kS1, "<init>", "(Ljava/lang/AbstractStringBuilder;Ljava/lang/Void;)V"⟩ : MethodName) jdk_42_method_150_code 5 none :: ws) (RM 3 1 4 49) #[(.ref x1), (.ref a1), .null] (Qrm_si2_4_16 Z x1 u1 u2 a1 d1 kd xe0 xe1 xe2 xe3 z0 h0 n0) := by
 refine MetFree.of_bodySF (plainFor_of_name pn_0) hisR ?_
 intro p e s m args below meth c s₁ Bd hml0 hP hK
 obtain ⟨rfl, hZ, hh⟩ := hP
 have hx := Bd.exec
 have hby := Bd.bytes
 have hml : c.maxLocals = 5 := hml0
 have hown : s.vm.findClass kS1 = some m.cls := findClass_of_methodNamed Bd.named
 have hnm := (name_of_methodNamed Bd.named Bd.method).1
 have X0 : Stand p l e (RM 3 1 4 49) s m #[(.ref x1), (.ref a1), .null] below meth c s₁ [] 0 0 := Stand.of_body Bd
 have e0 : s₁.heap = h0 := by rw [← hh, Bd.state]; rfl
 have N0 := Fr.nil n0
 have pre0 : ∀ t, GO p e below s₁ (mkF m 0 (la14 x1 a1) []) t → GO p e below s₁ (entryFrame m #[(.ref x1), (.ref a1), .null] 5) t := fun t k => castTop (ef_rm_si2_4_16 m x1 a1) k
 have lt_Es := ltA Es.lt
 have lt_Fv1 := ltA Fv1.lt
 have lt_Fc1 := ltA Fc1.lt
 have lt_Eb := ltA Eb.lt
 have lt_Fbv := ltA Fbv.lt
 have lt_Fbc := ltA Fbc.lt
 have lt_Fbn := ltA Fbn.lt
 have lt_Vb := ltA Vb.lt
 obtain ⟨T605, X605, e605, st605⟩ := initO X0 hx hZ hown (wd hw 11 rfl) (wd hw 12 rfl) (wd hw 13 rfl) e0 (g := (mkF m 1 (la14 x1 a1) [(.ref x1)])) rfl (by rw [hml]; rfl) rfl (hb hby d17_1) (by decide) (W := 0) (wz rfl) (by decide)
 -- pc 5: AbstractStringBuilder.getValue by rm_gv
 obtain ⟨cq606, kq606, q606a, q606b, q606c⟩ := isOf hZ e605 Eb
 obtain ⟨_, _, ⟨T606, L606, k606, n606⟩, -, X606, ⟨Lc606, hQ606, l606, y606, z606⟩, st606⟩ := X605.virtualBack hx (y := (⟨kS0, "getValue", "()[B"⟩ : MethodName)) (z := (⟨kS0, "getValue", "()[B"⟩ : MethodName)) hown (mvT hZ (wd hw 105 rfl)) (mvT hZ (wd hw 106 rfl)) (notFace_of_selects (args := #[]) (mvT hZ (wd hw 108 rfl))) (mvT hZ (wd hw 108 rfl)) (mvT hZ (wd hw 107 rfl)) (by decide) (backOf (W := 0) (rm_gv l Z a0 hw [] a1 d1 h0 n0 (by omega) Fbv) hZ (wd hw 109 rfl) (wd hw 36 rfl) (by decide) (by decide)) q606a q606c (g := (mkF m 5 (la14 x1 a1) [(.ref a1)])) rfl (by rw [hml]; rfl) (Steps.refl _) (argsL := []) (rest := []) (lenOf pd_14 rfl) rfl (wz rfl) (hb hby d17_5) (fun _ _ => ⟨rfl, e605, (by decide : 0 + 0 ≤ _), (by decide : 0 + 0 ≤ _)⟩)
 dsimp only [Pt.U, Pt.locs, Pt.cells, Pt.slots] at X606 l606 y606 z606 st606 hQ606
 subst l606 y606 z606
 obtain ⟨rfl, N606q, e606⟩ := hQ606
 have N606 := Fr.app N0 N606q
 -- pc 10: StringBuilder.length by rm_bl
 obtain ⟨cq607, kq607, q607a, q607b, q607c⟩ := isOf hZ e606 Eb
 obtain ⟨_, _, ⟨T607, L607, k607, n607⟩, -, X607, ⟨Lc607, hQ607, l607, y607, z607⟩, st607⟩ := X606.virtualBack hx (y := (⟨kS0, "length", "()I"⟩ : MethodName)) (z := (⟨kS2, "length", "()I"⟩ : MethodName)) hown (mvT hZ (wd hw 110 rfl)) (mvT hZ (wd hw 111 rfl)) (own_nf (args := #[]) (mvT hZ (wd hw 70 rfl)) rfl) (mvT hZ (wd hw 113 rfl)) (mvT hZ (wd hw 114 rfl)) (by decide) (backOf (W := 0) (rm_bl l Z a0 hw [] a1 (4 : Int32) h0 n0 (by omega) Eb Fbn) hZ (wd hw 115 rfl) (wd hw 28 rfl) (by decide) (by decide)) q607a q607c (g := (mkF m 10 (la15 x1 a1 d1) [(.ref a1)])) rfl (by rw [hml]; rfl) (Steps.refl _) (argsL := []) (rest := []) (lenOf pd_8 rfl) rfl (wz rfl) (hb hby d17_10) (fun _ _ => ⟨rfl, e606, (by decide : 0 + 0 ≤ _), (by decide : 0 + 0 ≤ _)⟩)
 dsimp only [Pt.U, Pt.locs, Pt.cells, Pt.slots] at X607 l607 y607 z607 st607 hQ607
 subst l607 y607 z607
 obtain ⟨rfl, N607q, e607⟩ := hQ607
 have N607 := Fr.app N606 N607q
 -- pc 16: AbstractStringBuilder.isLatin1 by rm_il
 obtain ⟨cq608, kq608, q608a, q608b, q608c⟩ := isOf hZ e607 Eb
 obtain ⟨_, _, ⟨T608, L608, k608, n608⟩, -, X608, ⟨Lc608, hQ608, l608, y608, z608⟩, st608⟩ := X607.virtualBack hx (y := (⟨kS0, "isLatin1", "()Z"⟩ : MethodName)) (z := (⟨kS0, "isLatin1", "()Z"⟩ : MethodName)) hown (mvT hZ (wd hw 118 rfl)) (mvT hZ (wd hw 119 rfl)) (notFace_of_selects (args := #[]) (mvT hZ (wd hw 121 rfl))) (mvT hZ (wd hw 121 rfl)) (mvT hZ (wd hw 120 rfl)) (by decide) (backOf (W := 0) (rm_il l Z a0 hw [] a1 z0 h0 n0 (by omega) O0 Fbc (by first | assumption | decide | omega) (by first | assumption | decide | omega)) hZ (wd hw 122 rfl) (wd hw 36 rfl) (by decide) (by decide)) q608a q608c (g := (mkF m 16 (la16 x1 a1 d1 (4 : Int32)) [(.ref a1)])) rfl (by rw [hml]; rfl) (Steps.refl _) (argsL := []) (rest := []) (lenOf pd_15 rfl) rfl (wz rfl) (hb hby d17_16) (fun _ _ => ⟨rfl, e607, (by decide : 0 + 0 ≤ _), (by decide : 0 + 0 ≤ _)⟩)
 dsimp only [Pt.U, Pt.locs, Pt.cells, Pt.slots] at X608 l608 y608 z608 st608 hQ608
 subst l608 y608 z608
 obtain ⟨rfl, N608q, e608⟩ := hQ608
 have N608 := Fr.app N607 N608q
 obtain ⟨T609, h609, X609, e609, W609, st609⟩ := putFN X608 hx hZ hown (wd hw 21 rfl) Via.refl e608 Fc1 Es (Or.inr ⟨(wd hw 17 rfl), rfl, hnm⟩) (wd hw 2 rfl) (ty := .byte) (v' := (.int 0)) (by decide) rfl rfl (g := (mkF m 24 (la16 x1 a1 d1 (4 : Int32)) [(.int 0), (.ref x1)])) rfl rfl (hb hby d17_24)
 have N609 := Fr.snoc X609 N608 (by omega : n0 ≤ x1)
 have ne610 : x1 ≠ a1 := ne_exa Es Eb (by decide)
 have ne611 : x1 ≠ d1 := Exa.neArv Es Vb (wd hw 2 rfl)
 have sz609 : h0.size ≤ h609.size := Nat.le_of_eq W609.size.symm
 have f609 : Fld Z h609 x1 kS1 "coder" "B" (.int 0) := Fc1.same W609
 -- pc 32: Arrays.copyOfRange by rm_cr_4_16
 have f613 : Arv Z h609 d1 kd .byte (16 : Int32) [(.int xe0), (.int xe1), (.int xe2), (.int xe3), (.int 0), (.int 0), (.int 0), (.int 0), (.int 0), (.int 0), (.int 0), (.int 0), (.int 0), (.int 0), (.int 0), (.int 0)] (.int 0) := (Vb.other W609 (Ne.symm ne611))
 obtain ⟨_, _, ⟨T612, L612, k612, n612⟩, -, X612, ⟨Lc612, hQ612, l612, y612, z612⟩, st612⟩ := Jvm.LawKit.callS X609 hx (y := (⟨"java/util/Arrays", "copyOfRange", "([BII)[B"⟩ : MethodName)) hown (mvT hZ (wd hw 123 rfl)) (mvT hZ (wd hw 124 rfl)) (mvT hZ (wd hw 125 rfl)) (mvT hZ (wd hw 126 rfl)) (by decide) (backOf (W := 1) (rm_cr_4_16 l Z a0 hw [] d1 kd xe0 xe1 xe2 xe3 h609 n0 (by omega) f613) hZ (wd hw 126 rfl) (wd hw 125 rfl) (by decide) (by decide)) (g := (mkF m 32 (la16 x1 a1 d1 (4 : Int32)) [(.int 4), (.int 0), (.ref d1), (.ref x1)])) rfl (by rw [hml]; rfl) (argsL := [(.ref d1), (.int 0), (.int 4)]) (rest := [(.ref x1)]) (lenOf pd_13 rfl) rfl (wz rfl) (hb hby d17_32) (fun _ _ => ⟨rfl, e609, (by decide : 0 + 1 ≤ _), (by decide : 0 + 4 ≤ _)⟩)
 dsimp only [Pt.U, Pt.locs, Pt.cells, Pt.slots] at X612 l612 y612 z612 st612 hQ612
 subst l612 y612 z612
 obtain ⟨h612, e612⟩ : ∃ z, T612.heap = z := ⟨_, rfl⟩
 rw [e612] at hQ612
 obtain ⟨t_612, k_612, rfl, N612q, K612, p612_0, p612_1, r612_0⟩ := hQ612
 have N612 := Fr.app N609 N612q
 have sz612 : h609.size ≤ h612.size := K612.1
 have lt612_0 := ltA p612_0.lt
 have lt612_1 := ltA p612_1.lt
 have f614 : Fld Z h612 x1 kS1 "value" "[B" u1 := ((Fv1.other W609 (Or.inr (slot_ne (Or.inr (wd hw 16 rfl)) (Or.inr (wd hw 17 rfl)) (by decide) (t := (.array .byte)) (t' := .byte) (by decide) (by decide)))).keep K612 nin0)
 have f615 : Exa Z h612 x1 kS1 := ((Es.wr W609).keep K612)
 obtain ⟨T616, h616, X616, e616, W616, st616⟩ := putF X612 hx hZ hown (host := "") (Or.inl (wd hw 20 rfl)) Via.refl e612 f614 f615 (Or.inr ⟨(wd hw 16 rfl), rfl, hnm⟩) (wd hw 2 rfl) (ty := (.array .byte)) (by decide) rfl rfl (g := (mkF m 35 (la16 x1 a1 d1 (4 : Int32)) [(.ref t_612), (.ref x1)])) rfl rfl (hb hby d17_35)
 have N616 := Fr.snoc X616 N612 (by omega : n0 ≤ x1)
 have ne617 : x1 ≠ t_612 := ne_exa f615 p612_0 (by decide)
 have sz616 : h612.size ≤ h616.size := Nat.le_of_eq W616.size.symm
 have f616 : Fld Z h616 x1 kS1 "value" "[B" (.ref t_612) := f614.same W616
 have f618 : Exa Z h616 x1 kS1 := (f615.wr W616)
 have f619 : Fld Z h616 x1 kS1 "coder" "B" (.int 0) := ((f609.keep K612 nin0).other W616 (Or.inr (slot_ne (Or.inr (wd hw 17 rfl)) (Or.inr (wd hw 16 rfl)) (by decide) (t := .byte) (t' := (.array .byte)) (by decide) (by decide))))
 have f620 : Exa Z h616 t_612 "[B" := (p612_0.wr W616)
 have f621 : Arv Z h616 t_612 k_612 .byte (4 : Int32) [(.int xe0), (.int xe1), (.int xe2), (.int xe3)] (.int 0) := (p612_1.other W616 (Ne.symm ne617))
 obtain ⟨fs, hr, hrun, hended, hW, hsame⟩ := X616.leave (v := none) (fun _ => rfl)
 refine ⟨_, _, pre0 _ ?_, hrun, hended, _, _, rfl, ?_, ⟨_, rfl⟩, hW, hsame.mono (by decide) (by decide)⟩
 ·show GO p e below s₁ (mkF m 0 (la14 x1 a1) []) _
  refine XS.aloadN X0.here hx rfl (hb hby d17_0) rfl rfl ?_
  show GO p e below s₁ (mkF m 1 (la14 x1 a1) [(.ref x1)]) _
  refine st605 _ ?_
  show GO p e below T605 (mkF m 4 (la14 x1 a1) []) _
  refine XS.aloadN X605.here hx rfl (hb hby d17_4) rfl rfl ?_
  show GO p e below T605 (mkF m 5 (la14 x1 a1) [(.ref a1)]) _
  refine st606.trans ?_
  show GO p e below T606 (mkF m 8 (la14 x1 a1) [(.ref d1)]) _
  refine XS.astoreN X606.here hx rfl (hb hby d17_8) rfl rfl (l' := (la15 x1 a1 d1)) rfl ?_
  show GO p e below T606 (mkF m 9 (la15 x1 a1 d1) []) _
  refine XS.aloadN X606.here hx rfl (hb hby d17_9) rfl rfl ?_
  show GO p e below T606 (mkF m 10 (la15 x1 a1 d1) [(.ref a1)]) _
  refine st607.trans ?_
  show GO p e below T607 (mkF m 13 (la15 x1 a1 d1) [(.int 4)]) _
  refine XS.istore X607.here hx rfl (hb hby d17_13) rfl (l' := (la16 x1 a1 d1 (4 : Int32))) rfl ?_
  show GO p e below T607 (mkF m 15 (la16 x1 a1 d1 (4 : Int32)) []) _
  refine XS.aloadN X607.here hx rfl (hb hby d17_15) rfl rfl ?_
  show GO p e below T607 (mkF m 16 (la16 x1 a1 d1 (4 : Int32)) [(.ref a1)]) _
  refine st608.trans ?_
  show GO p e below T608 (mkF m 19 (la16 x1 a1 d1 (4 : Int32)) [(.int 1)]) _
  refine XS.ifNo X608.here hx rfl (hb hby d17_19) rfl ((if0 _ _).trans (feq ((by decide) : ¬ ((1 : Int32) = (0 : Int32)))).1) ?_
  show GO p e below T608 (mkF m 22 (la16 x1 a1 d1 (4 : Int32)) []) _
  refine XS.aloadN X608.here hx rfl (hb hby d17_22) rfl rfl ?_
  show GO p e below T608 (mkF m 23 (la16 x1 a1 d1 (4 : Int32)) [(.ref x1)]) _
  refine XS.iconst X608.here hx rfl (hb hby d17_23) ?_
  show GO p e below T608 (mkF m 24 (la16 x1 a1 d1 (4 : Int32)) [(.int 0), (.ref x1)]) _
  refine st609 _ ?_
  show GO p e below T609 (mkF m 27 (la16 x1 a1 d1 (4 : Int32)) []) _
  refine XS.aloadN X609.here hx rfl (hb hby d17_27) rfl rfl ?_
  show GO p e below T609 (mkF m 28 (la16 x1 a1 d1 (4 : Int32)) [(.ref x1)]) _
  refine XS.aloadN X609.here hx rfl (hb hby d17_28) rfl rfl ?_
  show GO p e below T609 (mkF m 29 (la16 x1 a1 d1 (4 : Int32)) [(.ref d1), (.ref x1)]) _
  refine XS.iconst X609.here hx rfl (hb hby d17_29) ?_
  show GO p e below T609 (mkF m 30 (la16 x1 a1 d1 (4 : Int32)) [(.int 0), (.ref d1), (.ref x1)]) _
  refine XS.iload X609.here hx rfl (hb hby d17_30) rfl ?_
  show GO p e below T609 (mkF m 32 (la16 x1 a1 d1 (4 : Int32)) [(.int 4), (.int 0), (.ref d1), (.ref x1)]) _
  refine st612 _ ?_
  show GO p e below T612 (mkF m 35 (la16 x1 a1 d1 (4 : Int32)) [(.ref t_612), (.ref x1)]) _
  refine st616 _ ?_
  show GO p e below T616 (mkF m 38 (la16 x1 a1 d1 (4 : Int32)) []) _
  refine XS.goto X616.here hx rfl (pc0 := 38) (pc' := 97) rfl (hb hby d17_38) (by decide) (by decide) ?_
  show GO p e below T616 (mkF m 97 (la16 x1 a1 d1 (4 : Int32)) []) _
  exact X616.returnOut hx Bd.returns (hb hby d17_97) hr
 ·show Qrm_si2_4_16 Z x1 u1 u2 a1 d1 kd xe0 xe1 xe2 xe3 z0 h0 n0 _ T616.heap _
  rw [e616]
  exact ⟨t_612, k_612, rfl, N616, ((((Keep.refl h0 [x1]).wr W609 (Or.inl (List.mem_of_getElem? (i := 0) rfl))).trans K612 all0).wr W616 (Or.inl (List.mem_of_getElem? (i := 0) rfl))), f618, f619, f616, f620, f621, (by omega)⟩
def Qrm_si1_4_16 (Z : State) (x1 : Addr) (u1 : Value) (u2 : Value) (a1 : Addr) (d1 : Addr) (kd : ClassId) (xe0 : Int32) (xe1 : Int32) (xe2 : Int32) (xe3 : Int32) (z0 : Int32) (h0 : Heap) (n0 : Nat) (v : Option Value) (h : Heap) (L : List Loc) : Prop := ∃ t : Addr, ∃ k : ClassId, v = none ∧ Fr n0 L ∧ Keep h0 h [x1] ∧ Exa Z h x1 kS1 ∧ Fld Z h x1 kS1 "coder" "B" (.int 0) ∧ Fld Z h x1 kS1 "value" "[B" (.ref t) ∧ Exa Z h t "[B" ∧ Arv Z h t k .byte (4 : Int32) [(.int xe0), (.int xe1), (.int xe2), (.int xe3)] (.int 0) ∧ h0.size ≤ t
theorem ef_rm_si1_4_16 (m : MethodId) (x0 : Addr) (x1 : Addr) : entryFrame m #[(.ref x0), (.ref x1)] 2 = mkF m 0 #[.val (.ref x0), .val (.ref x1)] [] := by first | rfl | (simp [entryFrame, mkF, argsToLocals, Value.category]; done)
theorem rm_si1_4_16 (l : Launch) (Z : State) (a0 : Array Value) (hw : HW Z a0) (ws : List Jvm.Cond) (x1 : Addr) (u1 : Value) (u2 : Value) (a1 : Addr) (d1 : Addr) (kd : ClassId) (xe0 : Int32) (xe1 : Int32) (xe2 : Int32) (xe3 : Int32) (z0 : Int32) (h0 : Heap) (n0 : Nat) (Z0 : n0 ≤ h0.size) (O0 : Old Z n0 h0) (Es : Exa Z h0 x1 kS1) (Fv1 : Fld Z h0 x1 kS1 "value" "[B" u1) (Fc1 : Fld Z h0 x1 kS1 "coder" "B" u2) (Eb : Exa Z h0 a1 kS2) (Fbv : Fld Z h0 a1 kS0 "value" "[B" (.ref d1)) (Fbc : Fld Z h0 a1 kS0 "coder" "B" (.int 0)) (Fbn : Fld Z h0 a1 kS0 "count" "I" (.int 4)) (Vb : Arv Z h0 d1 kd .byte (16 : Int32) [(.int xe0), (.int xe1), (.int xe2), (.int xe3), (.int 0), (.int 0), (.int 0), (.int 0), (.int 0), (.int 0), (.int 0), (.int 0), (.int 0), (.int 0), (.int 0), (.int 0)] (.int 0)) (SZc : Sta Z Z.heap kS1 "COMPACT_STRINGS" "Z" (.int z0)) (hz0 : ¬ z0 = 0) (gx : n0 ≤ x1) :
  OwnM l Z h0 (⟨kS1, "<init>", "(Ljava/lang/StringBuilder;)V"⟩ : MethodName) (Jvm.Cond.code (⟨kS1, "<init>", "(Ljava/lang/StringBuilder;)V"⟩ : MethodName) jdk_42_method_53_code 2 none :: ws) (RM 4 1 4 65) #[(.ref x1), (.ref a1)] (Qrm_si1_4_16 Z x1 u1 u2 a1 d1 kd xe0 xe1 xe2 xe3 z0 h0 n0) := by
 refine MetFree.of_bodySF (plainFor_of_name pn_0) hisR ?_
 intro p e s m args below meth c s₁ Bd hml0 hP hK
 obtain ⟨rfl, hZ, hh⟩ := hP
 have hx := Bd.exec
 have hby := Bd.bytes
 have hml : c.maxLocals = 2 := hml0
 have hown : s.vm.findClass kS1 = some m.cls := findClass_of_methodNamed Bd.named
 have hnm := (name_of_methodNamed Bd.named Bd.method).1
 have X0 : Stand p l e (RM 4 1 4 65) s m #[(.ref x1), (.ref a1)] below meth c s₁ [] 0 0 := Stand.of_body Bd
 have e0 : s₁.heap = h0 := by rw [← hh, Bd.state]; rfl
 have N0 := Fr.nil n0
 have pre0 : ∀ t, GO p e below s₁ (mkF m 0 #[.val (.ref x1), .val (.ref a1)] []) t → GO p e below s₁ (entryFrame m #[(.ref x1), (.ref a1)] 2) t := fun t k => castTop (ef_rm_si1_4_16 m x1 a1) k
 have lt_Es := ltA Es.lt
 have lt_Fv1 := ltA Fv1.lt
 have lt_Fc1 := ltA Fc1.lt
 have lt_Eb := ltA Eb.lt
 have lt_Fbv := ltA Fbv.lt
 have lt_Fbc := ltA Fbc.lt
 have lt_Fbn := ltA Fbn.lt
 have lt_Vb := ltA Vb.lt
 -- pc 3: String.<init> by rm_si2_4_16
 obtain ⟨_, _, ⟨T622, L622, k622, n622⟩, -, X622, ⟨Lc622, hQ622, l622, y622, z622⟩, st622⟩ := X0.specialBack hx (y := (⟨kS1, "<init>", "(Ljava/lang/AbstractStringBuilder;Ljava/lang/Void;)V"⟩ : MethodName)) rfl hown (mvT hZ (wd hw 102 rfl)) (mvT hZ (wd hw 103 rfl)) (mvT hZ (wd hw 104 rfl)) (by decide) (backOf (W := 0) (rm_si2_4_16 l Z a0 hw [] x1 u1 u2 a1 d1 kd xe0 xe1 xe2 xe3 z0 h0 n0 (by omega) O0 Es Fv1 Fc1 Eb Fbv Fbc Fbn Vb (by first | assumption | decide | omega) (by first | assumption | decide | omega) (by first | assumption | decide | omega)) hZ (wd hw 104 rfl) (wd hw 3 rfl) (by decide) (by decide)) (g := (mkF m 3 #[.val (.ref x1), .val (.ref a1)] [.null, (.ref a1), (.ref x1)])) rfl (by rw [hml]; rfl) (Steps.refl _) (a := x1) (argsL := [(.ref a1), .null]) (rest := []) (lenOf pd_16 rfl) rfl (wz rfl) (hb hby d16_3) (fun _ _ => ⟨rfl, e0, (by decide : 0 + 1 ≤ _), (by decide : 0 + 4 ≤ _)⟩)
 dsimp only [Pt.U, Pt.locs, Pt.cells, Pt.slots] at X622 l622 y622 z622 st622 hQ622
 subst l622 y622 z622
 obtain ⟨h622, e622⟩ : ∃ z, T622.heap = z := ⟨_, rfl⟩
 rw [e622] at hQ622
 obtain ⟨t_622, k_622, rfl, N622q, K622, p622_0, p622_1, p622_2, p622_3, p622_4, r622_0⟩ := hQ622
 have N622 := Fr.app N0 N622q
 have sz622 : h0.size ≤ h622.size := K622.1
 have lt622_0 := ltA p622_0.lt
 have lt622_3 := ltA p622_3.lt
 have lt622_4 := ltA p622_4.lt
 obtain ⟨fs, hr, hrun, hended, hW, hsame⟩ := X622.leave (v := none) (fun _ => rfl)
 refine ⟨_, _, pre0 _ ?_, hrun, hended, _, _, rfl, ?_, ⟨_, rfl⟩, hW, hsame.mono (by decide) (by decide)⟩
 ·show GO p e below s₁ (mkF m 0 #[.val (.ref x1), .val (.ref a1)] []) _
  refine XS.aloadN X0.here hx rfl (hb hby d16_0) rfl rfl ?_
  show GO p e below s₁ (mkF m 1 #[.val (.ref x1), .val (.ref a1)] [(.ref x1)]) _
  refine XS.aloadN X0.here hx rfl (hb hby d16_1) rfl rfl ?_
  show GO p e below s₁ (mkF m 2 #[.val (.ref x1), .val (.ref a1)] [(.ref a1), (.ref x1)]) _
  refine XS.aconstNull X0.here hx rfl (hb hby d16_2) ?_
  show GO p e below s₁ (mkF m 3 #[.val (.ref x1), .val (.ref a1)] [.null, (.ref a1), (.ref x1)]) _
  refine st622.trans ?_
  show GO p e below T622 (mkF m 6 #[.val (.ref x1), .val (.ref a1)] []) _
  exact X622.returnOut hx Bd.returns (hb hby d16_6) hr
 ·show Qrm_si1_4_16 Z x1 u1 u2 a1 d1 kd xe0 xe1 xe2 xe3 z0 h0 n0 _ T622.heap _
  rw [e622]
  exact ⟨t_622, k_622, rfl, N622, ((Keep.refl h0 [x1]).trans K622 (allS (P := fun x => x ∈ _ ∨ _) (Or.inl (List.mem_of_getElem? (i := 0) rfl)) all0)), p622_0, p622_1, p622_2, p622_3, p622_4, r622_0⟩
def Qrm_ts_4_16 (Z : State) (a1 : Addr) (d1 : Addr) (kd : ClassId) (xe0 : Int32) (xe1 : Int32) (xe2 : Int32) (xe3 : Int32) (z0 : Int32) (h0 : Heap) (n0 : Nat) (v : Option Value) (h : Heap) (L : List Loc) : Prop := ∃ x : Addr, ∃ t : Addr, ∃ k : ClassId, v = some (.ref x) ∧ Fr n0 L ∧ Keep h0 h [] ∧ Exa Z h x kS1 ∧ Fld Z h x kS1 "coder" "B" (.int 0) ∧ Fld Z h x kS1 "value" "[B" (.ref t) ∧ Exa Z h t "[B" ∧ Arv Z h t k .byte (4 : Int32) [(.int xe0), (.int xe1), (.int xe2), (.int xe3)] (.int 0) ∧ h0.size ≤ x ∧ h0.size ≤ t
theorem ef_rm_ts_4_16 (m : MethodId) (x0 : Addr) : entryFrame m #[(.ref x0)] 1 = mkF m 0 #[.val (.ref x0)] [] := by first | rfl | (simp [entryFrame, mkF, argsToLocals, Value.category]; done)
theorem rm_ts_4_16 (l : Launch) (Z : State) (a0 : Array Value) (hw : HW Z a0) (ws : List Jvm.Cond) (a1 : Addr) (d1 : Addr) (kd : ClassId) (xe0 : Int32) (xe1 : Int32) (xe2 : Int32) (xe3 : Int32) (z0 : Int32) (h0 : Heap) (n0 : Nat) (Z0 : n0 ≤ h0.size) (O0 : Old Z n0 h0) (Eb : Exa Z h0 a1 kS2) (Fbv : Fld Z h0 a1 kS0 "value" "[B" (.ref d1)) (Fbc : Fld Z h0 a1 kS0 "coder" "B" (.int 0)) (Fbn : Fld Z h0 a1 kS0 "count" "I" (.int 4)) (Vb : Arv Z h0 d1 kd .byte (16 : Int32) [(.int xe0), (.int xe1), (.int xe2), (.int xe3), (.int 0), (.int 0), (.int 0), (.int 0), (.int 0), (.int 0), (.int 0), (.int 0), (.int 0), (.int 0), (.int 0), (.int 0)] (.int 0)) (SZc : Sta Z Z.heap kS1 "COMPACT_STRINGS" "Z" (.int z0)) (hz0 : ¬ z0 = 0) :
  OwnM l Z h0 (⟨kS2, "toString", "()Ljava/lang/String;"⟩ : MethodName) (Jvm.Cond.code (⟨kS2, "toString", "()Ljava/lang/String;"⟩ : MethodName) jdk_67_method_42_code 1 (some (.object kS1)) :: ws) (RM 5 2 8 79) #[(.ref a1)] (Qrm_ts_4_16 Z a1 d1 kd xe0 xe1 xe2 xe3 z0 h0 n0) := by
 refine MetFree.of_bodySF (plainFor_of_name pn_3) hisR ?_
 intro p e s m args below meth c s₁ Bd hml0 hP hK
 obtain ⟨rfl, hZ, hh⟩ := hP
 have hx := Bd.exec
 have hby := Bd.bytes
 have hml : c.maxLocals = 1 := hml0
 have hown : s.vm.findClass kS2 = some m.cls := findClass_of_methodNamed Bd.named
 have hnm := (name_of_methodNamed Bd.named Bd.method).1
 have X0 : Stand p l e (RM 5 2 8 79) s m #[(.ref a1)] below meth c s₁ [] 0 0 := Stand.of_body Bd
 have e0 : s₁.heap = h0 := by rw [← hh, Bd.state]; rfl
 have N0 := Fr.nil n0
 have pre0 : ∀ t, GO p e below s₁ (mkF m 0 #[.val (.ref a1)] []) t → GO p e below s₁ (entryFrame m #[(.ref a1)] 1) t := fun t k => castTop (ef_rm_ts_4_16 m a1) k
 have lt_Eb := ltA Eb.lt
 have lt_Fbv := ltA Fbv.lt
 have lt_Fbc := ltA Fbc.lt
 have lt_Fbn := ltA Fbn.lt
 have lt_Vb := ltA Vb.lt
 obtain ⟨T623, h623, X623, e623, E623, A623, D623, U623, st623⟩ := newO X0 hx hZ hown (wd hw 98 rfl) (wd hw 2 rfl) (wd hw 3 rfl) e0 (g := (mkF m 0 #[.val (.ref a1)] [])) rfl (hb hby d15_0) (by decide) (by decide)
 obtain ⟨b623, g623⟩ : ∃ z, z = h0.size := ⟨_, rfl⟩
 rw [← g623] at A623 D623 U623 st623
 have sz623 : h0.size ≤ h623.size := E623.1
 have lt623 := ltA A623.lt
 have f624 : Fld Z h623 b623 kS1 "value" "[B" .null := D623 (Or.inr (wd hw 16 rfl)) (ty := (.array .byte)) (by decide)
 have f625 : Fld Z h623 b623 kS1 "coder" "B" (.int 0) := D623 (Or.inr (wd hw 17 rfl)) (ty := .byte) (by decide)
 -- pc 5: String.<init> by rm_si1_4_16
 have f627 : Old Z n0 h623 := (O0.ext E623)
 have f628 : Exa Z h623 a1 kS2 := (Eb.ext E623)
 have f629 : Fld Z h623 a1 kS0 "value" "[B" (.ref d1) := (Fbv.ext E623)
 have f630 : Fld Z h623 a1 kS0 "coder" "B" (.int 0) := (Fbc.ext E623)
 have f631 : Fld Z h623 a1 kS0 "count" "I" (.int 4) := (Fbn.ext E623)
 have f632 : Arv Z h623 d1 kd .byte (16 : Int32) [(.int xe0), (.int xe1), (.int xe2), (.int xe3), (.int 0), (.int 0), (.int 0), (.int 0), (.int 0), (.int 0), (.int 0), (.int 0), (.int 0), (.int 0), (.int 0), (.int 0)] (.int 0) := (Vb.ext E623)
 obtain ⟨_, _, ⟨T626, L626, k626, n626⟩, -, X626, ⟨Lc626, hQ626, l626, y626, z626⟩, st626⟩ := X623.specialBack hx (y := (⟨kS1, "<init>", "(Ljava/lang/StringBuilder;)V"⟩ : MethodName)) rfl hown (mvT hZ (wd hw 99 rfl)) (mvT hZ (wd hw 100 rfl)) (mvT hZ (wd hw 101 rfl)) (by decide) (backOf (W := 1) (rm_si1_4_16 l Z a0 hw [] b623 .null (.int 0) a1 d1 kd xe0 xe1 xe2 xe3 z0 h623 n0 (by omega) f627 A623 f624 f625 f628 f629 f630 f631 f632 (by first | assumption | decide | omega) (by first | assumption | decide | omega) (by first | assumption | decide | omega)) hZ (wd hw 101 rfl) (wd hw 3 rfl) (by decide) (by decide)) (g := (mkF m 5 #[.val (.ref a1)] [(.ref a1), (.ref b623), (.ref b623)])) rfl (by rw [hml]; rfl) (Steps.refl _) (a := b623) (argsL := [(.ref a1)]) (rest := [(.ref b623)]) (lenOf pd_17 rfl) rfl (wz rfl) (hb hby d15_5) (fun _ _ => ⟨rfl, e623, (by decide : 1 + 1 ≤ _), (by decide : 4 + 4 ≤ _)⟩)
 dsimp only [Pt.U, Pt.locs, Pt.cells, Pt.slots] at X626 l626 y626 z626 st626 hQ626
 subst l626 y626 z626
 obtain ⟨h626, e626⟩ : ∃ z, T626.heap = z := ⟨_, rfl⟩
 rw [e626] at hQ626
 obtain ⟨t_626, k_626, rfl, N626q, K626, p626_0, p626_1, p626_2, p626_3, p626_4, r626_0⟩ := hQ626
 have N626 := Fr.app N0 N626q
 have sz626 : h623.size ≤ h626.size := K626.1
 have lt626_0 := ltA p626_0.lt
 have lt626_3 := ltA p626_3.lt
 have lt626_4 := ltA p626_4.lt
 obtain ⟨fs, hr, hrun, hended, hW, hsame⟩ := X626.leave (v := some (.ref b623)) (fun h => by rw [Bd.returns] at h; cases h)
 refine ⟨_, _, pre0 _ ?_, hrun, hended, _, _, rfl, ?_, ⟨_, rfl⟩, hW, hsame.mono (by decide) (by decide)⟩
 ·show GO p e below s₁ (mkF m 0 #[.val (.ref a1)] []) _
  refine st623 _ ?_
  show GO p e below T623 (mkF m 3 #[.val (.ref a1)] [(.ref b623)]) _
  refine XS.dup X623.here hx rfl (hb hby d15_3) rfl rfl ?_
  show GO p e below T623 (mkF m 4 #[.val (.ref a1)] [(.ref b623), (.ref b623)]) _
  refine XS.aloadN X623.here hx rfl (hb hby d15_4) rfl rfl ?_
  show GO p e below T623 (mkF m 5 #[.val (.ref a1)] [(.ref a1), (.ref b623), (.ref b623)]) _
  refine st626.trans ?_
  show GO p e below T626 (mkF m 8 #[.val (.ref a1)] [(.ref b623)]) _
  exact retOut X626 hx Bd.returns rfl (Or.inr (Or.inr (Or.inr (Or.inr ⟨rfl, rfl, rfl⟩)))) (hb hby d15_8) hr
 ·show Qrm_ts_4_16 Z a1 d1 kd xe0 xe1 xe2 xe3 z0 h0 n0 _ T626.heap _
  rw [e626]
  exact ⟨b623, t_626, k_626, rfl, N626, (((Keep.refl h0 []).ext E623).trans K626 (allS (P := fun x => x ∈ _ ∨ _) (Or.inr (by omega)) all0)), p626_0, p626_1, p626_2, p626_3, p626_4, (by omega), (by omega)⟩
def Qrm_line3 (Z : State) (q0 : Addr) (q1 : Addr) (q2 : Addr) (x1 : Addr) (t1 : Addr) (k1 : ClassId) (xs0 : Int32) (xs1 : Int32) (xs2 : Int32) (z0 : Int32) (h0 : Heap) (n0 : Nat) (v : Option Value) (h : Heap) (L : List Loc) : Prop := ∃ t : Addr, ∃ k : ClassId, v = some (.ref t) ∧ Fr n0 L ∧ Keep h0 h [] ∧ Arv Z h t k .byte (4 : Int32) [(.int xs0), (.int xs1), (.int xs2), (.int 10)] (.int 0)
theorem ef_rm_line3 (m : MethodId) (x0 : Addr) : entryFrame m #[(.ref x0)] 1 = mkF m 0 #[.val (.ref x0)] [] := by first | rfl | (simp [entryFrame, mkF, argsToLocals, Value.category]; done)
theorem rm_line3 (l : Launch) (Z : State) (a0 : Array Value) (hw : HW Z a0) (ws : List Jvm.Cond) (q0 : Addr) (q1 : Addr) (q2 : Addr) (x1 : Addr) (t1 : Addr) (k1 : ClassId) (xs0 : Int32) (xs1 : Int32) (xs2 : Int32) (z0 : Int32) (h0 : Heap) (n0 : Nat) (Z0 : n0 ≤ h0.size) (O0 : Old Z n0 h0) (Esx1 : Exa Z h0 x1 kS1) (Fcx1 : Fld Z h0 x1 kS1 "coder" "B" (.int 0)) (Fvx1 : Fld Z h0 x1 kS1 "value" "[B" (.ref t1)) (Vsx1 : Arv Z h0 t1 k1 .byte (3 : Int32) [(.int xs0), (.int xs1), (.int xs2)] (.int 0)) (SZc : Sta Z Z.heap kS1 "COMPACT_STRINGS" "Z" (.int z0)) (hz0 : ¬ z0 = 0) (HC : OwnC Z q0 q1 q2) (hg0 : ¬ xs0 < 0) (hg1 : ¬ xs1 < 0) (hg2 : ¬ xs2 < 0) :
  OwnW l Z h0 (⟨"com/example/holdtube/holdtube/Seal", "line", "(Ljava/lang/String;)[B"⟩ : MethodName) (Jvm.Cond.code (⟨"com/example/holdtube/holdtube/Seal", "line", "(Ljava/lang/String;)[B"⟩ : MethodName) prog_22_method_4_code 1 (some (.array .byte)) :: ws) (RM 6 7 40 91) #[(.ref x1)] [] (Qrm_line3 Z q0 q1 q2 x1 t1 k1 xs0 xs1 xs2 z0 h0 n0) := by
 refine MetFree.of_bodySF (plainFor_of_name pn_5) hisR ?_
 intro p e s m args below meth c s₁ Bd hml0 hP hK
 obtain ⟨rfl, hZ, hh, H0, sf⟩ := hP
 have hx := Bd.exec
 have hby := Bd.bytes
 have hml : c.maxLocals = 1 := hml0
 have hown : s.vm.findClass "com/example/holdtube/holdtube/Seal" = some m.cls := findClass_of_methodNamed Bd.named
 have hnm := (name_of_methodNamed Bd.named Bd.method).1
 have X0 : Stand p l e (RM 6 7 40 91) (s.setVm s.vm) m #[(.ref x1)] below meth c s₁ [] 0 0 := Stand.of_body Bd
 have hS0 : s.Since s.vm h0.size := (State.WarmedH.refl s).since _
 have C0 : CHr Z EL1 s.vm h0 s.vm h0 := CHr.refl H0
 have e0 : s₁.heap = h0 := by rw [← hh, Bd.state]; rfl
 have N0 := Fr.nil n0
 have pre0 : ∀ t, GO p e below s₁ (mkF m 0 #[.val (.ref x1)] []) t → GO p e below s₁ (entryFrame m #[(.ref x1)] 1) t := fun t k => castTop (ef_rm_line3 m x1) k
 have lt_Esx1 := ltA Esx1.lt
 have lt_Fcx1 := ltA Fcx1.lt
 have lt_Fvx1 := ltA Fvx1.lt
 have lt_Vsx1 := ltA Vsx1.lt
 obtain ⟨SZq0, SZqa, SZq1, SZq2, nq1, nq2⟩ := HC
 obtain ⟨T633, h633, X633, e633, E633, A633, D633, U633, st633⟩ := newO X0 hx hZ hown (wd hw 26 rfl) (wd hw 27 rfl) (wd hw 28 rfl) e0 (g := (mkF m 0 #[.val (.ref x1)] [])) rfl (hb hby d4_0) (by decide) (by decide)
 obtain ⟨b633, g633⟩ : ∃ z, z = h0.size := ⟨_, rfl⟩
 rw [← g633] at A633 D633 U633 st633
 have C634 : CHr Z EL1 s.vm h0 s.vm h633 := C0.trans (CHr.ext E633 C0.1)
 have sz633 : h0.size ≤ h633.size := E633.1
 have lt633 := ltA A633.lt
 have f635 : Fld Z h633 b633 kS0 "value" "[B" .null := D633 (Or.inl (wd hw 41 rfl)) (ty := (.array .byte)) (by decide)
 have f636 : Fld Z h633 b633 kS0 "coder" "B" (.int 0) := D633 (Or.inl (wd hw 43 rfl)) (ty := .byte) (by decide)
 have f637 : Fld Z h633 b633 kS0 "count" "I" (.int 0) := D633 (Or.inl (wd hw 66 rfl)) (ty := .int) (by decide)
 -- pc 4: StringBuilder.<init> by rm_bi
 have f639 : Old Z n0 h633 := (O0.ext E633)
 obtain ⟨_, _, ⟨T638, L638, k638, n638⟩, -, X638, ⟨Lc638, hQ638, l638, y638, z638⟩, st638⟩ := X633.specialBack hx (y := (⟨kS2, "<init>", "()V"⟩ : MethodName)) rfl hown (mvT hZ (wd hw 29 rfl)) (mvT hZ (wd hw 30 rfl)) (mvT hZ (wd hw 31 rfl)) (by decide) (backOf (W := 1) (rm_bi l Z a0 hw [] b633 .null (.int 0) z0 h633 n0 (by omega) f639 A633 f635 f636 f637 (by first | assumption | decide | omega) (by first | assumption | decide | omega) (by first | assumption | decide | omega)) hZ (wd hw 31 rfl) (wd hw 28 rfl) (by decide) (by decide)) (g := (mkF m 4 #[.val (.ref x1)] [(.ref b633), (.ref b633)])) rfl (by rw [hml]; rfl) (Steps.refl _) (a := b633) (argsL := []) (rest := [(.ref b633)]) (lenOf pd_18 rfl) rfl (wz rfl) (hb hby d4_4) (fun _ _ => ⟨rfl, e633, (by decide : 1 + 1 ≤ _), (by decide : 4 + 16 ≤ _)⟩)
 dsimp only [Pt.U, Pt.locs, Pt.cells, Pt.slots] at X638 l638 y638 z638 st638 hQ638
 subst l638 y638 z638
 obtain ⟨h638, e638⟩ : ∃ z, T638.heap = z := ⟨_, rfl⟩
 rw [e638] at hQ638
 obtain ⟨d_638, k_638, rfl, N638q, K638, p638_0, p638_1, p638_2, p638_3, p638_4, r638_0⟩ := hQ638
 have N638 := Fr.app N0 N638q
 have f640 : Exa Z h633 x1 kS1 := (Esx1.ext E633)
 have ne641 : b633 ≠ x1 := ne_exa A633 f640 (by decide)
 have f642 : Arv Z h633 t1 k1 .byte (3 : Int32) [(.int xs0), (.int xs1), (.int xs2)] (.int 0) := (Vsx1.ext E633)
 have ne643 : b633 ≠ t1 := Exa.neArv A633 f642 (wd hw 27 rfl)
 have C644 : CHr Z EL1 s.vm h0 s.vm h638 := C634.trans (CHr.keep K638 (sfS (Safe.exa hZ.alike A633 (by decide) (by decide)) sf0) C634.1)
 have sz638 : h633.size ≤ h638.size := K638.1
 have lt638_0 := ltA p638_0.lt
 have lt638_4 := ltA p638_4.lt
 have B638_d_638 : Safe Z EL1 s.vm h638 d_638 := Safe.keep K638 (sfS (Safe.exa hZ.alike A633 (by decide) (by decide)) sf0) C634.1 (Safe.new (by omega))
 -- pc 8: StringBuilder.append by rm_sa_3_0_16
 have f646 : Old Z n0 h638 := (f639.keep K638 (allS (by omega) all0))
 have f647 : Exa Z h638 x1 kS1 := (f640.keep K638)
 have f648 : Fld Z h638 x1 kS1 "coder" "B" (.int 0) := ((Fcx1.ext E633).keep K638 (ninS (Ne.symm ne641) nin0))
 have f649 : Fld Z h638 x1 kS1 "value" "[B" (.ref t1) := ((Fvx1.ext E633).keep K638 (ninS (Ne.symm ne641) nin0))
 have f650 : Arv Z h638 t1 k1 .byte (3 : Int32) [(.int xs0), (.int xs1), (.int xs2)] (.int 0) := (f642.keep K638 (ninS (Ne.symm ne643) nin0))
 obtain ⟨cq645, kq645, q645a, q645b, q645c⟩ := isOf hZ e638 p638_0
 obtain ⟨_, _, ⟨T645, L645, k645, n645⟩, -, X645, ⟨Lc645, hQ645, l645, y645, z645⟩, st645⟩ := X638.virtualBack hx (y := (⟨kS2, "append", "(Ljava/lang/String;)Ljava/lang/StringBuilder;"⟩ : MethodName)) (z := (⟨kS2, "append", "(Ljava/lang/String;)Ljava/lang/StringBuilder;"⟩ : MethodName)) hown (mvT hZ (wd hw 44 rfl)) (mvT hZ (wd hw 45 rfl)) (notFace_of_selects (args := #[]) (mvT hZ (wd hw 47 rfl))) (mvT hZ (wd hw 47 rfl)) (mvT hZ (wd hw 46 rfl)) (by decide) (backOf (W := 0) (rm_sa_3_0_16 l Z a0 hw [] x1 t1 k1 xs0 xs1 xs2 b633 d_638 k_638 z0 h638 n0 (by omega) f646 f647 f648 f649 f650 p638_0 p638_1 p638_2 p638_3 p638_4 (by first | assumption | decide | omega) (by first | assumption | decide | omega) (by first | assumption | decide | omega) (by first | assumption | decide | omega) (neN (by omega))) hZ (wd hw 48 rfl) (wd hw 28 rfl) (by decide) (by decide)) q645a q645c (g := (mkF m 8 #[.val (.ref x1)] [(.ref x1), (.ref b633)])) rfl (by rw [hml]; rfl) (Steps.refl _) (argsL := [(.ref x1)]) (rest := []) (lenOf pd_19 rfl) rfl (wz rfl) (hb hby d4_8) (fun _ _ => ⟨rfl, e638, (by decide : 2 + 0 ≤ _), (by decide : 20 + 0 ≤ _)⟩)
 dsimp only [Pt.U, Pt.locs, Pt.cells, Pt.slots] at X645 l645 y645 z645 st645 hQ645
 subst l645 y645 z645
 obtain ⟨h645, e645⟩ : ∃ z, T645.heap = z := ⟨_, rfl⟩
 rw [e645] at hQ645
 obtain ⟨rfl, N645q, K645, p645_0, p645_1, p645_2, p645_3, p645_4⟩ := hQ645
 have N645 := Fr.app N638 N645q
 have ne651 : d_638 ≠ x1 := Ne.symm (Exa.neArv f647 p638_4 (wd hw 2 rfl))
 have C652 : CHr Z EL1 s.vm h0 s.vm h645 := C644.trans (CHr.keep K645 (sfS (Safe.exa hZ.alike p638_0 (by decide) (by decide)) (sfS B638_d_638 sf0)) C644.1)
 have sz645 : h638.size ≤ h645.size := K645.1
 have lt645_0 := ltA p645_0.lt
 have lt645_4 := ltA p645_4.lt
 obtain ⟨sa653, T653, h653, kk653, sb653, sk653, X653, e653, E653, hS653, hk653, hZ653, hown653, A653, Fc653, Fv653, V653, lt653, ltb653, C653w, Lt653, ne653, st653⟩ := ldcCH X645 hx hZ hown (wd hw 92 rfl) (own_wS hw) e645 hS0 (by omega) (own_EW hw) (by decide) C652.1 (vs := [(.int 10)]) (z := (1 : Int32)) (by decide +kernel) (by decide) (by decide) (g := (mkF m 11 #[.val (.ref x1)] [(.ref b633)])) rfl (hb hby d4_11) (n := 4) (by decide) (by decide) (by decide) (by decide)
 have C654 : CHr Z EL1 s.vm h0 T653.vm h653 := C652.trans (C653w)
 have sz653 : h645.size ≤ h653.size := E653.1
 have lv653 := ltA lt653
 have lw653 := ltA ltb653
 have f655 : Exa Z h653 b633 kS2 := (p645_0.ext E653)
 have nx653_b633 := ne653 b633 (Safe.exa hZ653.alike f655 (by decide) (by decide))
 have f656 : Safe Z EL1 T653.vm h653 d_638 := (CHr.safe C653w (ltN (by omega)) (Safe.keep K645 (sfS (Safe.exa hZ.alike p638_0 (by decide) (by decide)) (sfS B638_d_638 sf0)) C644.1 B638_d_638))
 have nx653_d_638 := ne653 d_638 f656
 -- pc 13: StringBuilder.append by rm_sa_1_3_16
 have f658 : Old Z n0 h653 := ((f646.keep K645 (allS (by omega) (allS (by omega) all0))).ext E653)
 have f659 : Fld Z h653 b633 kS0 "value" "[B" (.ref d_638) := (p645_1.ext E653)
 have f660 : Fld Z h653 b633 kS0 "coder" "B" (.int 0) := (p645_2.ext E653)
 have f661 : Fld Z h653 b633 kS0 "count" "I" (.int 3) := (p645_3.ext E653)
 have f662 : Arv Z h653 d_638 k_638 .byte (16 : Int32) [(.int xs0), (.int xs1), (.int xs2), (.int 0), (.int 0), (.int 0), (.int 0), (.int 0), (.int 0), (.int 0), (.int 0), (.int 0), (.int 0), (.int 0), (.int 0), (.int 0)] (.int 0) := (p645_4.ext E653)
 obtain ⟨cq657, kq657, q657a, q657b, q657c⟩ := isOf hZ653 e653 f655
 obtain ⟨_, _, ⟨T657, L657, k657, n657⟩, -, X657, ⟨Lc657, hQ657, l657, y657, z657⟩, st657⟩ := X653.virtualBack hx (y := (⟨kS2, "append", "(Ljava/lang/String;)Ljava/lang/StringBuilder;"⟩ : MethodName)) (z := (⟨kS2, "append", "(Ljava/lang/String;)Ljava/lang/StringBuilder;"⟩ : MethodName)) hown653 (mvT hZ653 (wd hw 44 rfl)) (mvT hZ653 (wd hw 45 rfl)) (notFace_of_selects (args := #[]) (mvT hZ653 (wd hw 47 rfl))) (mvT hZ653 (wd hw 47 rfl)) (mvT hZ653 (wd hw 46 rfl)) (by decide) (backOf (W := 0) (rm_sa_1_3_16 l Z a0 hw [] sa653 sb653 sk653 (10 : Int32) b633 d_638 k_638 xs0 xs1 xs2 z0 h653 n0 (by omega) f658 A653 Fc653 Fv653 V653 f655 f659 f660 f661 f662 (by first | assumption | decide | omega) (by first | assumption | decide | omega) (by first | assumption | decide | omega) (by first | assumption | decide | omega) (Ne.symm nx653_d_638.2)) hZ653 (wd hw 48 rfl) (wd hw 28 rfl) (by decide) (by decide)) q657a q657c (g := (mkF m 13 #[.val (.ref x1)] [(.ref sa653), (.ref b633)])) rfl (by rw [hml]; rfl) (Steps.refl _) (argsL := [(.ref sa653)]) (rest := []) (lenOf pd_19 rfl) rfl (wz rfl) (hb hby d4_13) (fun _ _ => ⟨rfl, e653, (by decide : 4 + 0 ≤ _), (by decide : 28 + 0 ≤ _)⟩)
 dsimp only [Pt.U, Pt.locs, Pt.cells, Pt.slots] at X657 l657 y657 z657 st657 hQ657
 subst l657 y657 z657
 obtain ⟨h657, e657⟩ : ∃ z, T657.heap = z := ⟨_, rfl⟩
 rw [e657] at hQ657
 obtain ⟨rfl, N657q, K657, p657_0, p657_1, p657_2, p657_3, p657_4⟩ := hQ657
 have N657 := Fr.app N645 N657q
 have C663 : CHr Z EL1 s.vm h0 T653.vm h657 := C654.trans (CHr.keep K657 (sfS (Safe.exa hZ653.alike f655 (by decide) (by decide)) (sfS f656 sf0)) C654.1)
 have sz657 : h653.size ≤ h657.size := K657.1
 have lt657_0 := ltA p657_0.lt
 have lt657_4 := ltA p657_4.lt
 -- pc 16: StringBuilder.toString by rm_ts_4_16
 have f665 : Old Z n0 h657 := (f658.keep K657 (allS (by omega) (allS (by omega) all0)))
 obtain ⟨cq664, kq664, q664a, q664b, q664c⟩ := isOf hZ653 e657 p657_0
 obtain ⟨_, _, ⟨T664, L664, k664, n664⟩, -, X664, ⟨Lc664, hQ664, l664, y664, z664⟩, st664⟩ := X657.virtualBack hx (y := (⟨kS2, "toString", "()Ljava/lang/String;"⟩ : MethodName)) (z := (⟨kS2, "toString", "()Ljava/lang/String;"⟩ : MethodName)) hown653 (mvT hZ653 (wd hw 93 rfl)) (mvT hZ653 (wd hw 94 rfl)) (notFace_of_selects (args := #[]) (mvT hZ653 (wd hw 96 rfl))) (mvT hZ653 (wd hw 96 rfl)) (mvT hZ653 (wd hw 95 rfl)) (by decide) (backOf (W := 0) (rm_ts_4_16 l Z a0 hw [] b633 d_638 k_638 xs0 xs1 xs2 (10 : Int32) z0 h657 n0 (by omega) f665 p657_0 p657_1 p657_2 p657_3 p657_4 (by first | assumption | decide | omega) (by first | assumption | decide | omega)) hZ653 (wd hw 97 rfl) (wd hw 28 rfl) (by decide) (by decide)) q664a q664c (g := (mkF m 16 #[.val (.ref x1)] [(.ref b633)])) rfl (by rw [hml]; rfl) (Steps.refl _) (argsL := []) (rest := []) (lenOf pd_20 rfl) rfl (wz rfl) (hb hby d4_16) (fun _ _ => ⟨rfl, e657, (by decide : 4 + 2 ≤ _), (by decide : 28 + 8 ≤ _)⟩)
 dsimp only [Pt.U, Pt.locs, Pt.cells, Pt.slots] at X664 l664 y664 z664 st664 hQ664
 subst l664 y664 z664
 obtain ⟨h664, e664⟩ : ∃ z, T664.heap = z := ⟨_, rfl⟩
 rw [e664] at hQ664
 obtain ⟨x_664, t_664, k_664, rfl, N664q, K664, p664_0, p664_1, p664_2, p664_3, p664_4, r664_0, r664_1⟩ := hQ664
 have N664 := Fr.app N657 N664q
 have C666 : CHr Z EL1 s.vm h0 T653.vm h664 := C663.trans (CHr.keep K664 sf0 C663.1)
 have sz664 : h657.size ≤ h664.size := K664.1
 have lt664_0 := ltA p664_0.lt
 have lt664_3 := ltA p664_3.lt
 have lt664_4 := ltA p664_4.lt
 have B664_x_664 : Safe Z EL1 T653.vm h664 x_664 := Safe.keep K664 sf0 C663.1 (Safe.new (by omega))
 have B664_t_664 : Safe Z EL1 T653.vm h664 t_664 := Safe.keep K664 sf0 C663.1 (Safe.new (by omega))
 have f667 : Old Z n0 h664 := (f665.keep K664 all0)
 have S668 : Sta Z h664 "java/nio/charset/StandardCharsets" "US_ASCII" "Ljava/nio/charset/Charset;" (.ref q0) := SZq0.ext f667.2
 obtain ⟨T669, X669, e669, st669⟩ := getS2 X664 hx hZ653 hown653 (host := "") (Or.inl (wd hw 138 rfl)) Via.refl e664 S668 (g := (mkF m 19 #[.val (.ref x1)] [(.ref x_664)])) rfl (hb hby d4_19)
 -- pc 22: String.getBytes by rm_gbc4
 obtain ⟨cq670, kq670, q670a, q670b, q670c⟩ := isOf hZ653 e669 p664_0
 obtain ⟨_, _, ⟨T670, L670, k670, n670⟩, -, X670, ⟨Lc670, hQ670, l670, y670, z670⟩, st670⟩ := X669.virtualBack hx (y := (⟨kS1, "getBytes", "(Ljava/nio/charset/Charset;)[B"⟩ : MethodName)) (z := (⟨kS1, "getBytes", "(Ljava/nio/charset/Charset;)[B"⟩ : MethodName)) hown653 (mvT hZ653 (wd hw 140 rfl)) (mvT hZ653 (wd hw 141 rfl)) (notFace_of_selects (args := #[]) (mvT hZ653 (wd hw 143 rfl))) (mvT hZ653 (wd hw 143 rfl)) (mvT hZ653 (wd hw 142 rfl)) (by decide) (backOf (W := 0) (rm_gbc4 l Z a0 hw [] q0 q1 q2 x_664 t_664 k_664 xs0 xs1 xs2 (10 : Int32) z0 h664 n0 (by omega) f667 p664_0 p664_1 p664_2 p664_4 p664_3 (by first | assumption | decide | omega) (by first | assumption | decide | omega) ⟨SZq0, SZqa, SZq1, SZq2, nq1, nq2⟩ (by first | assumption | decide | omega) (by first | assumption | decide | omega) (by first | assumption | decide | omega) (by first | assumption | decide | omega)) hZ653 (wd hw 144 rfl) (wd hw 3 rfl) (by decide) (by decide)) q670a q670c (g := (mkF m 22 #[.val (.ref x1)] [(.ref q0), (.ref x_664)])) rfl (by rw [hml]; rfl) (Steps.refl _) (argsL := [(.ref q0)]) (rest := []) (lenOf pd_21 rfl) rfl (wz rfl) (hb hby d4_22) (fun _ _ => ⟨rfl, e669, (by decide : 6 + 1 ≤ _), (by decide : 36 + 4 ≤ _)⟩)
 dsimp only [Pt.U, Pt.locs, Pt.cells, Pt.slots] at X670 l670 y670 z670 st670 hQ670
 subst l670 y670 z670
 obtain ⟨h670, e670⟩ : ∃ z, T670.heap = z := ⟨_, rfl⟩
 rw [e670] at hQ670
 obtain ⟨t_670, k_670, rfl, N670q, K670, p670_0⟩ := hQ670
 have N670 := Fr.app N664 N670q
 have C671 : CHr Z EL1 s.vm h0 T653.vm h670 := C666.trans (CHr.keep K670 sf0 C666.1)
 have sz670 : h664.size ≤ h670.size := K670.1
 have lt670_0 := ltA p670_0.lt
 obtain ⟨fs, hr, hrun, hended, hE⟩ := X670.leaveW hS653 (by rw [e670]; omega) (v := some (.ref t_670)) (fun h => by rw [Bd.returns] at h; cases h)
 have CE := C671.trans (CHv.at X670 hZ653 (own_EW hw) C671.1)
 refine ⟨_, _, pre0 _ ?_, hrun, hended, _, _, rfl, ?_, ?_, ⟨hE.1, hE.2.1, hE.2.2.1, hE.2.2.2.mono (by decide) (by decide)⟩⟩
 ·show GO p e below s₁ (mkF m 0 #[.val (.ref x1)] []) _
  refine st633 _ ?_
  show GO p e below T633 (mkF m 3 #[.val (.ref x1)] [(.ref b633)]) _
  refine XS.dup X633.here hx rfl (hb hby d4_3) rfl rfl ?_
  show GO p e below T633 (mkF m 4 #[.val (.ref x1)] [(.ref b633), (.ref b633)]) _
  refine st638.trans ?_
  show GO p e below T638 (mkF m 7 #[.val (.ref x1)] [(.ref b633)]) _
  refine XS.aloadN X638.here hx rfl (hb hby d4_7) rfl rfl ?_
  show GO p e below T638 (mkF m 8 #[.val (.ref x1)] [(.ref x1), (.ref b633)]) _
  refine st645.trans ?_
  show GO p e below T645 (mkF m 11 #[.val (.ref x1)] [(.ref b633)]) _
  refine st653 _ ?_
  show GO p e below T653 (mkF m 13 #[.val (.ref x1)] [(.ref sa653), (.ref b633)]) _
  refine st657.trans ?_
  show GO p e below T657 (mkF m 16 #[.val (.ref x1)] [(.ref b633)]) _
  refine st664.trans ?_
  show GO p e below T664 (mkF m 19 #[.val (.ref x1)] [(.ref x_664)]) _
  refine st669 _ ?_
  show GO p e below T669 (mkF m 22 #[.val (.ref x1)] [(.ref q0), (.ref x_664)]) _
  refine st670.trans ?_
  show GO p e below T670 (mkF m 25 #[.val (.ref x1)] [(.ref t_670)]) _
  exact retOut X670 hx Bd.returns rfl (Or.inr (Or.inr (Or.inr (Or.inr ⟨rfl, rfl, rfl⟩)))) (hb hby d4_25) hr
 ·show Qrm_line3 Z q0 q1 q2 x1 t1 k1 xs0 xs1 xs2 z0 h0 n0 _ T670.heap _
  rw [e670]
  exact ⟨t_670, k_670, rfl, N670, ((((((((Keep.refl h0 []).ext E633).trans K638 (allS (P := fun x => x ∈ _ ∨ _) (Or.inr (by omega)) all0)).trans K645 (allS (P := fun x => x ∈ _ ∨ _) (Or.inr (by omega)) (allS (P := fun x => x ∈ _ ∨ _) (Or.inr (by omega)) all0))).ext E653).trans K657 (allS (P := fun x => x ∈ _ ∨ _) (Or.inr (by omega)) (allS (P := fun x => x ∈ _ ∨ _) (Or.inr (by omega)) all0))).trans K664 all0).trans K670 all0), p670_0⟩
 ·show CHr Z EL1 s.vm s.heap T670.vm T670.heap
  rw [hh, e670]
  exact CE
def Qrm0 (Z : State) (p0 : Int32) (p1 : Int32) (p2 : Int32) (p3 : Int32) (z0 : Int32) (q0 : Addr) (q1 : Addr) (q2 : Addr) (h0 : Heap) (n0 : Nat) (v : Option Value) (h : Heap) (L : List Loc) : Prop := v = some (.int 1) ∧ Fr n0 L
theorem ef_rm0 (m : MethodId) (x0 : Int32) (x1 : Int32) (x2 : Int32) (x3 : Int32) : entryFrame m #[(.int x0), (.int x1), (.int x2), (.int x3)] maxLocals = mkF m 0 (la17 x0 x1 x2 x3) [] := by first | (simp [entryFrame, mkF, argsToLocals, Value.category, maxLocals]; done) | rfl
theorem rm0 (l : Launch) (Z : State) (a0 : Array Value) (hw : HW Z a0) (ws : List Jvm.Cond) (p0 : Int32) (p1 : Int32) (p2 : Int32) (p3 : Int32) (z0 : Int32) (q0 : Addr) (q1 : Addr) (q2 : Addr) (h0 : Heap) (n0 : Nat) (Z0 : n0 ≤ h0.size) (O0 : Old Z n0 h0) (SZc : Sta Z Z.heap kS1 "COMPACT_STRINGS" "Z" (.int z0)) (hz0 : ¬ z0 = 0) (HC : OwnC Z q0 q1 q2) :
  OwnW l Z h0 x (Jvm.Cond.code x code maxLocals ret :: ws) room_1 #[(.int p0), (.int p1), (.int p2), (.int p3)] [] (Qrm0 Z p0 p1 p2 p3 z0 q0 q1 q2 h0 n0) := by
 refine MetFree.of_bodySF (plainFor_of_name pn_6) hisR ?_
 intro p e s m args below meth c s₁ Bd hml0 hP hK
 obtain ⟨rfl, hZ, hh, H0, sf⟩ := hP
 have hx := Bd.exec
 have hby := Bd.bytes
 have hml : c.maxLocals = 11 := hml0
 have hown : s.vm.findClass "com/example/holdtube/holdtube/SealLinePinLaw" = some m.cls := findClass_of_methodNamed Bd.named
 have hnm := (name_of_methodNamed Bd.named Bd.method).1
 have X0 : Stand p l e room_1 (s.setVm s.vm) m #[(.int p0), (.int p1), (.int p2), (.int p3)] below meth c s₁ [] 0 0 := Stand.of_body Bd
 have hS0 : s.Since s.vm h0.size := (State.WarmedH.refl s).since _
 have C0 : CHr Z EL1 s.vm h0 s.vm h0 := CHr.refl H0
 have e0 : s₁.heap = h0 := by rw [← hh, Bd.state]; rfl
 have N0 := Fr.nil n0
 have pre0 : ∀ t, GO p e below s₁ (mkF m 0 (la17 p0 p1 p2 p3) []) t → GO p e below s₁ (entryFrame m #[(.int p0), (.int p1), (.int p2), (.int p3)] maxLocals) t := fun t k => castTop (ef_rm0 m p0 p1 p2 p3) k
 obtain ⟨nn, hnn⟩ : ∃ z, z = (p0 &&& (3 : Int32)) := ⟨_, rfl⟩
 obtain ⟨c0, hc0⟩ : ∃ z, z = ((p1 &&& (127 : Int32)).toUInt32.toUInt16.toUInt32.toInt32) := ⟨_, rfl⟩
 obtain ⟨c1, hc1⟩ : ∃ z, z = ((p2 &&& (127 : Int32)).toUInt32.toUInt16.toUInt32.toInt32) := ⟨_, rfl⟩
 obtain ⟨c2, hc2⟩ : ∃ z, z = ((p3 &&& (127 : Int32)).toUInt32.toUInt16.toUInt32.toInt32) := ⟨_, rfl⟩
 have g0 := own_four hnn
 obtain ⟨rc0, qc0, bc0⟩ := own_seven hc0
 obtain ⟨rc1, qc1, bc1⟩ := own_seven hc1
 obtain ⟨rc2, qc2, bc2⟩ := own_seven hc2
 have pre672 : ∀ t, GO p e below s₁ (mkF m 26 (la21 p0 p1 p2 p3 nn c0 c1 c2) []) t → GO p e below s₁ (entryFrame m #[(.int p0), (.int p1), (.int p2), (.int p3)] maxLocals) t := by
  intro t kt
  refine pre0 t ?_
  show GO p e below s₁ (mkF m 0 (la17 p0 p1 p2 p3) []) _
  refine XS.iloadN X0.here hx rfl (hb hby at_0) rfl ?_
  show GO p e below s₁ (mkF m 1 (la17 p0 p1 p2 p3) [(.int p0)]) _
  refine XS.iconst X0.here hx rfl (hb hby at_1) ?_
  show GO p e below s₁ (mkF m 2 (la17 p0 p1 p2 p3) [(.int 3), (.int p0)]) _
  refine XS.iand X0.here hx rfl (hb hby at_2) rfl ?_
  show GO p e below s₁ (mkF m 3 (la17 p0 p1 p2 p3) [(.int (p0 &&& (3 : Int32)))]) _
  refine XS.istore X0.here hx rfl (hb hby at_3) rfl (l' := (la18 p0 p1 p2 p3 (p0 &&& (3 : Int32)))) rfl ?_
  show GO p e below s₁ (mkF m 5 (la18 p0 p1 p2 p3 (p0 &&& (3 : Int32))) []) _
  refine XS.iloadN X0.here hx rfl (hb hby at_5) rfl ?_
  show GO p e below s₁ (mkF m 6 (la18 p0 p1 p2 p3 (p0 &&& (3 : Int32))) [(.int p1)]) _
  refine XS.bipush X0.here hx rfl (hb hby at_6) ?_
  show GO p e below s₁ (mkF m 8 (la18 p0 p1 p2 p3 (p0 &&& (3 : Int32))) [(.int 127), (.int p1)]) _
  refine XS.iand X0.here hx rfl (hb hby at_8) rfl ?_
  show GO p e below s₁ (mkF m 9 (la18 p0 p1 p2 p3 (p0 &&& (3 : Int32))) [(.int (p1 &&& (127 : Int32)))]) _
  refine XS.i2c X0.here hx rfl (hb hby at_9) rfl ?_
  show GO p e below s₁ (mkF m 10 (la18 p0 p1 p2 p3 (p0 &&& (3 : Int32))) [(.int ((p1 &&& (127 : Int32)).toUInt32.toUInt16.toUInt32.toInt32))]) _
  refine XS.istore X0.here hx rfl (hb hby at_10) rfl (l' := (la19 p0 p1 p2 p3 (p0 &&& (3 : Int32)) ((p1 &&& (127 : Int32)).toUInt32.toUInt16.toUInt32.toInt32))) rfl ?_
  show GO p e below s₁ (mkF m 12 (la19 p0 p1 p2 p3 (p0 &&& (3 : Int32)) ((p1 &&& (127 : Int32)).toUInt32.toUInt16.toUInt32.toInt32)) []) _
  refine XS.iloadN X0.here hx rfl (hb hby at_12) rfl ?_
  show GO p e below s₁ (mkF m 13 (la19 p0 p1 p2 p3 (p0 &&& (3 : Int32)) ((p1 &&& (127 : Int32)).toUInt32.toUInt16.toUInt32.toInt32)) [(.int p2)]) _
  refine XS.bipush X0.here hx rfl (hb hby at_13) ?_
  show GO p e below s₁ (mkF m 15 (la19 p0 p1 p2 p3 (p0 &&& (3 : Int32)) ((p1 &&& (127 : Int32)).toUInt32.toUInt16.toUInt32.toInt32)) [(.int 127), (.int p2)]) _
  refine XS.iand X0.here hx rfl (hb hby at_15) rfl ?_
  show GO p e below s₁ (mkF m 16 (la19 p0 p1 p2 p3 (p0 &&& (3 : Int32)) ((p1 &&& (127 : Int32)).toUInt32.toUInt16.toUInt32.toInt32)) [(.int (p2 &&& (127 : Int32)))]) _
  refine XS.i2c X0.here hx rfl (hb hby at_16) rfl ?_
  show GO p e below s₁ (mkF m 17 (la19 p0 p1 p2 p3 (p0 &&& (3 : Int32)) ((p1 &&& (127 : Int32)).toUInt32.toUInt16.toUInt32.toInt32)) [(.int ((p2 &&& (127 : Int32)).toUInt32.toUInt16.toUInt32.toInt32))]) _
  refine XS.istore X0.here hx rfl (hb hby at_17) rfl (l' := (la20 p0 p1 p2 p3 (p0 &&& (3 : Int32)) ((p1 &&& (127 : Int32)).toUInt32.toUInt16.toUInt32.toInt32) ((p2 &&& (127 : Int32)).toUInt32.toUInt16.toUInt32.toInt32))) rfl ?_
  show GO p e below s₁ (mkF m 19 (la20 p0 p1 p2 p3 (p0 &&& (3 : Int32)) ((p1 &&& (127 : Int32)).toUInt32.toUInt16.toUInt32.toInt32) ((p2 &&& (127 : Int32)).toUInt32.toUInt16.toUInt32.toInt32)) []) _
  refine XS.iloadN X0.here hx rfl (hb hby at_19) rfl ?_
  show GO p e below s₁ (mkF m 20 (la20 p0 p1 p2 p3 (p0 &&& (3 : Int32)) ((p1 &&& (127 : Int32)).toUInt32.toUInt16.toUInt32.toInt32) ((p2 &&& (127 : Int32)).toUInt32.toUInt16.toUInt32.toInt32)) [(.int p3)]) _
  refine XS.bipush X0.here hx rfl (hb hby at_20) ?_
  show GO p e below s₁ (mkF m 22 (la20 p0 p1 p2 p3 (p0 &&& (3 : Int32)) ((p1 &&& (127 : Int32)).toUInt32.toUInt16.toUInt32.toInt32) ((p2 &&& (127 : Int32)).toUInt32.toUInt16.toUInt32.toInt32)) [(.int 127), (.int p3)]) _
  refine XS.iand X0.here hx rfl (hb hby at_22) rfl ?_
  show GO p e below s₁ (mkF m 23 (la20 p0 p1 p2 p3 (p0 &&& (3 : Int32)) ((p1 &&& (127 : Int32)).toUInt32.toUInt16.toUInt32.toInt32) ((p2 &&& (127 : Int32)).toUInt32.toUInt16.toUInt32.toInt32)) [(.int (p3 &&& (127 : Int32)))]) _
  refine XS.i2c X0.here hx rfl (hb hby at_23) rfl ?_
  show GO p e below s₁ (mkF m 24 (la20 p0 p1 p2 p3 (p0 &&& (3 : Int32)) ((p1 &&& (127 : Int32)).toUInt32.toUInt16.toUInt32.toInt32) ((p2 &&& (127 : Int32)).toUInt32.toUInt16.toUInt32.toInt32)) [(.int ((p3 &&& (127 : Int32)).toUInt32.toUInt16.toUInt32.toInt32))]) _
  refine XS.istore X0.here hx rfl (hb hby at_24) rfl (l' := (la21 p0 p1 p2 p3 (p0 &&& (3 : Int32)) ((p1 &&& (127 : Int32)).toUInt32.toUInt16.toUInt32.toInt32) ((p2 &&& (127 : Int32)).toUInt32.toUInt16.toUInt32.toInt32) ((p3 &&& (127 : Int32)).toUInt32.toUInt16.toUInt32.toInt32))) rfl ?_
  rw [← hnn]
  rw [← hc0]
  rw [← hc1]
  rw [← hc2]
  exact kt
 rcases g0 with rfl | rfl | rfl | rfl
 ·obtain ⟨T673, h673, k673, X673, e673, E673, A673, st673⟩ := newP X0 hx hZ (wd hw 0 rfl) e0 (g := (mkF m 32 (la21 p0 p1 p2 p3 (0 : Int32) c0 c1 c2) [(.int 0)])) rfl (hb hby at_32) rfl (by decide) (cap := 0) (by decide) (by decide) (by decide) (by decide)
  obtain ⟨b673, g673⟩ : ∃ z, z = h0.size := ⟨_, rfl⟩
  rw [← g673] at A673 st673
  have C674 : CHr Z EL1 s.vm h0 s.vm h673 := C0.trans (CHr.ext E673 C0.1)
  have sz673 : h0.size ≤ h673.size := E673.1
  have lt673 := ltA A673.lt
  have V673 : Arv Z h673 b673 k673 .char (0 : Int32) [] (.int 0) := Arv.new A673 (by decide)
  obtain ⟨T675, h675, X675, e675, E675, A675, D675, U675, st675⟩ := newO X673 hx hZ hown (wd hw 1 rfl) (wd hw 2 rfl) (wd hw 3 rfl) e673 (g := (mkF m 102 (la22 p0 p1 p2 p3 (0 : Int32) c0 c1 c2 b673) [])) rfl (hb hby at_102) (by decide) (by decide)
  obtain ⟨b675, g675⟩ : ∃ z, z = h673.size := ⟨_, rfl⟩
  rw [← g675] at A675 D675 U675 st675
  have C676 : CHr Z EL1 s.vm h0 s.vm h675 := C674.trans (CHr.ext E675 C674.1)
  have sz675 : h673.size ≤ h675.size := E675.1
  have lt675 := ltA A675.lt
  have B675 : Safe Z EL1 s.vm h675 b675 := Safe.ext E675 C674.1 (Safe.new (by omega))
  have f677 : Fld Z h675 b675 kS1 "value" "[B" .null := D675 (Or.inr (wd hw 16 rfl)) (ty := (.array .byte)) (by decide)
  have f678 : Fld Z h675 b675 kS1 "coder" "B" (.int 0) := D675 (Or.inr (wd hw 17 rfl)) (ty := .byte) (by decide)
  -- pc 108: String.<init> by rm_si
  have f680 : Arv Z h675 b673 k673 .char (0 : Int32) [] (.int 0) := (V673.ext E675)
  obtain ⟨_, _, ⟨T679, L679, k679, n679⟩, -, X679w, hS679w, gr679, ⟨Lc679, hQ679, l679, y679, z679, C679w⟩, st679⟩ := X675.specialBackS hx (y := (⟨kS1, "<init>", "([C)V"⟩ : MethodName)) rfl hown (mvT hZ (wd hw 4 rfl)) (mvT hZ (wd hw 5 rfl)) (mvT hZ (wd hw 6 rfl)) (by decide) (own_backS (W := 1) (rm_si l Z a0 hw [] b675 b673 .null (.int 0) k673 [] h675 n0 (by omega) A675 f677 f678 f680 (by first | assumption | decide | omega)) hZ (wd hw 6 rfl) (wd hw 3 rfl) (by decide) (by decide) (own_EW hw) C676.1 (sfS B675 sf0) (allS (ltN (by omega)) all0)) (g := (mkF m 108 (la22 p0 p1 p2 p3 (0 : Int32) c0 c1 c2 b673) [(.ref b673), (.ref b675), (.ref b675)])) rfl (by rw [hml]; rfl) (Steps.refl _) (a := b675) (argsL := [(.ref b673)]) (rest := [(.ref b675)]) (lenOf pd_22 rfl) rfl (wz rfl) (hb hby at_108) (fun _ _ => ⟨rfl, e675, (by decide : 2 + 4 ≤ _), (by decide : 4 + 8 ≤ _)⟩)
  dsimp only [Pt.U, Pt.locs, Pt.cells, Pt.slots] at X679w hS679w gr679 l679 y679 z679 st679 hQ679 C679w
  subst l679 y679 z679
  obtain ⟨X679, hS679, hZ679, hown679⟩ := rebS hS0 (by rw [e675]; omega) X679w hS679w gr679 hZ hown
  obtain ⟨h679, e679⟩ : ∃ z, T679.heap = z := ⟨_, rfl⟩
  rw [e679] at hQ679
  obtain ⟨t_679, k_679, rfl, N679q, K679, p679_0, p679_1, p679_2, p679_3⟩ := hQ679
  have N679 := Fr.app N0 N679q
  rw [e679] at C679w hS679
  have hk679 : h679.size ≤ h679.size := Nat.le_refl _
  have C681 : CHr Z EL1 s.vm h0 T679.vm h679 := C676.trans (C679w)
  have sz679 : h675.size ≤ h679.size := K679.1
  have lt679_0 := ltA p679_0.lt
  have lt679_3 := ltA p679_3.lt
  -- pc 115: Seal.line by rm_line0
  have f683 : Old Z n0 h679 := (((O0.ext E673).ext E675).keep K679 (allS (by omega) all0))
  obtain ⟨_, _, ⟨T682, L682, k682, n682⟩, -, X682w, hS682w, gr682, ⟨Lc682, hQ682, l682, y682, z682, C682w⟩, st682⟩ := callSS X679 hx (y := (⟨"com/example/holdtube/holdtube/Seal", "line", "(Ljava/lang/String;)[B"⟩ : MethodName)) hown679 (mvT hZ679 (wd hw 22 rfl)) (mvT hZ679 (wd hw 23 rfl)) (mvT hZ679 (wd hw 24 rfl)) (mvT hZ679 (wd hw 25 rfl)) (by decide) (own_backS (W := 0) (rm_line0 l Z a0 hw [] q0 q1 q2 b675 t_679 k_679 z0 h679 n0 (by omega) f683 p679_0 p679_1 p679_2 p679_3 (by first | assumption | decide | omega) (by first | assumption | decide | omega) (by first | assumption | decide | omega)) hZ679 (wd hw 25 rfl) (wd hw 24 rfl) (by decide) (by decide) (own_EW hw) C681.1 sf0 all0) (g := (mkF m 115 (la23 p0 p1 p2 p3 (0 : Int32) c0 c1 c2 b673 b675) [(.ref b675)])) rfl (by rw [hml]; rfl) (argsL := [(.ref b675)]) (rest := []) (lenOf pd_23 rfl) rfl (wz rfl) (hb hby at_115) (fun _ _ => ⟨rfl, e679, (by decide : 6 + 7 ≤ _), (by decide : 12 + 34 ≤ _)⟩)
  dsimp only [Pt.U, Pt.locs, Pt.cells, Pt.slots] at X682w hS682w gr682 l682 y682 z682 st682 hQ682 C682w
  subst l682 y682 z682
  obtain ⟨X682, hS682, hZ682, hown682⟩ := rebS hS679 (by rw [e679]; omega) X682w hS682w gr682 hZ679 hown679
  obtain ⟨h682, e682⟩ : ∃ z, T682.heap = z := ⟨_, rfl⟩
  rw [e682] at hQ682
  obtain ⟨t_682, k_682, rfl, N682q, K682, p682_0⟩ := hQ682
  have N682 := Fr.app N679 N682q
  rw [e682] at C682w hS682
  have hk682 : h682.size ≤ h682.size := Nat.le_refl _
  have C684 : CHr Z EL1 s.vm h0 T682.vm h682 := C681.trans (C682w)
  have sz682 : h679.size ≤ h682.size := K682.1
  have lt682_0 := ltA p682_0.lt
  obtain ⟨cl685, Ar685, -, S685, M685, -, -⟩ := id p682_0
  obtain ⟨cl686, Ar686, q686, S686, M686, H686, G686⟩ := id p682_0
  have hin686 : ¬ ((0 : Int32) < 0 ∨ cl686.slots.size ≤ ((0 : Int32)).toNatClampNeg) := inb_of S686 ⟨by decide, by decide⟩
  have hat686 : cl686.slots[((0 : Int32)).toNatClampNeg]? = some (.int 10) := Has.at H686 hin686 rfl
  obtain ⟨fs, hr, hrun, hended, hE⟩ := X682.leaveW hS682 (by rw [e682]; omega) (v := some (.int 1)) (fun h => by rw [Bd.returns] at h; cases h)
  have CE := C684.trans (CHv.at X682 hZ682 (own_EW hw) C684.1)
  refine ⟨_, _, pre672 _ ?_, hrun, hended, _, _, rfl, ?_, ?_, ⟨hE.1, hE.2.1, hE.2.2.1, hE.2.2.2.mono (by decide) (by decide)⟩⟩
  ·show GO p e below s₁ (mkF m 26 (la21 p0 p1 p2 p3 (0 : Int32) c0 c1 c2) []) _
   refine XS.iload X0.here hx rfl (hb hby at_26) rfl ?_
   show GO p e below s₁ (mkF m 28 (la21 p0 p1 p2 p3 (0 : Int32) c0 c1 c2) [(.int 0)]) _
   refine XS.ifNo X0.here hx rfl (hb hby at_28) rfl ((if0 _ _).trans (teq (rfl : (0 : Int32) = (0 : Int32))).2) ?_
   show GO p e below s₁ (mkF m 31 (la21 p0 p1 p2 p3 (0 : Int32) c0 c1 c2) []) _
   refine XS.iconst X0.here hx rfl (hb hby at_31) ?_
   show GO p e below s₁ (mkF m 32 (la21 p0 p1 p2 p3 (0 : Int32) c0 c1 c2) [(.int 0)]) _
   refine st673 _ ?_
   show GO p e below T673 (mkF m 34 (la21 p0 p1 p2 p3 (0 : Int32) c0 c1 c2) [(.ref b673)]) _
   refine XS.astore X673.here hx rfl (hb hby at_34) rfl rfl (l' := (la22 p0 p1 p2 p3 (0 : Int32) c0 c1 c2 b673)) rfl ?_
   show GO p e below T673 (mkF m 36 (la22 p0 p1 p2 p3 (0 : Int32) c0 c1 c2 b673) []) _
   refine XS.goto X673.here hx rfl (pc0 := 36) (pc' := 102) rfl (hb hby at_36) (by decide) (by decide) ?_
   show GO p e below T673 (mkF m 102 (la22 p0 p1 p2 p3 (0 : Int32) c0 c1 c2 b673) []) _
   refine st675 _ ?_
   show GO p e below T675 (mkF m 105 (la22 p0 p1 p2 p3 (0 : Int32) c0 c1 c2 b673) [(.ref b675)]) _
   refine XS.dup X675.here hx rfl (hb hby at_105) rfl rfl ?_
   show GO p e below T675 (mkF m 106 (la22 p0 p1 p2 p3 (0 : Int32) c0 c1 c2 b673) [(.ref b675), (.ref b675)]) _
   refine XS.aload X675.here hx rfl (hb hby at_106) rfl rfl ?_
   show GO p e below T675 (mkF m 108 (la22 p0 p1 p2 p3 (0 : Int32) c0 c1 c2 b673) [(.ref b673), (.ref b675), (.ref b675)]) _
   refine st679.trans ?_
   show GO p e below T679 (mkF m 111 (la22 p0 p1 p2 p3 (0 : Int32) c0 c1 c2 b673) [(.ref b675)]) _
   refine XS.astore X679.here hx rfl (hb hby at_111) rfl rfl (l' := (la23 p0 p1 p2 p3 (0 : Int32) c0 c1 c2 b673 b675)) rfl ?_
   show GO p e below T679 (mkF m 113 (la23 p0 p1 p2 p3 (0 : Int32) c0 c1 c2 b673 b675) []) _
   refine XS.aload X679.here hx rfl (hb hby at_113) rfl rfl ?_
   show GO p e below T679 (mkF m 115 (la23 p0 p1 p2 p3 (0 : Int32) c0 c1 c2 b673 b675) [(.ref b675)]) _
   refine st682.trans ?_
   show GO p e below T682 (mkF m 118 (la23 p0 p1 p2 p3 (0 : Int32) c0 c1 c2 b673 b675) [(.ref t_682)]) _
   refine XS.astore X682.here hx rfl (hb hby at_118) rfl rfl (l' := (la24 p0 p1 p2 p3 (0 : Int32) c0 c1 c2 b673 b675 t_682)) rfl ?_
   show GO p e below T682 (mkF m 120 (la24 p0 p1 p2 p3 (0 : Int32) c0 c1 c2 b673 b675 t_682) []) _
   refine XS.aload X682.here hx rfl (hb hby at_120) rfl rfl ?_
   show GO p e below T682 (mkF m 122 (la24 p0 p1 p2 p3 (0 : Int32) c0 c1 c2 b673 b675 t_682) [(.ref t_682)]) _
   refine XS.ifnonnullYes X682.here hx rfl (pc0 := 122) (pc' := 127) rfl (hb hby at_122) rfl (by decide) (by decide) ?_
   show GO p e below T682 (mkF m 127 (la24 p0 p1 p2 p3 (0 : Int32) c0 c1 c2 b673 b675 t_682) []) _
   refine XS.aload X682.here hx rfl (hb hby at_127) rfl rfl ?_
   show GO p e below T682 (mkF m 129 (la24 p0 p1 p2 p3 (0 : Int32) c0 c1 c2 b673 b675 t_682) [(.ref t_682)]) _
   refine X682.arraylength hx (by rw [e682]; exact Ar685.1) (State.isArrayOf_alike hZ682.alike Ar685.2.1) (g := (mkF m 129 (la24 p0 p1 p2 p3 (0 : Int32) c0 c1 c2 b673 b675 t_682) [(.ref t_682)])) rfl rfl (hb hby at_129) _ ?_
   rw [len_of S685 M685]
   show GO p e below T682 (mkF m 130 (la24 p0 p1 p2 p3 (0 : Int32) c0 c1 c2 b673 b675 t_682) [(.int 1)]) _
   refine XS.iload X682.here hx rfl (hb hby at_130) rfl ?_
   show GO p e below T682 (mkF m 132 (la24 p0 p1 p2 p3 (0 : Int32) c0 c1 c2 b673 b675 t_682) [(.int 0), (.int 1)]) _
   refine XS.iconst X682.here hx rfl (hb hby at_132) ?_
   show GO p e below T682 (mkF m 133 (la24 p0 p1 p2 p3 (0 : Int32) c0 c1 c2 b673 b675 t_682) [(.int 1), (.int 0), (.int 1)]) _
   refine XS.iadd X682.here hx rfl (hb hby at_133) rfl ?_
   rw [show ((0 : Int32) + (1 : Int32)) = (1 : Int32) from by decide]
   show GO p e below T682 (mkF m 134 (la24 p0 p1 p2 p3 (0 : Int32) c0 c1 c2 b673 b675 t_682) [(.int 1), (.int 1)]) _
   refine XS.icmpYes X682.here hx rfl (pc0 := 134) (pc' := 139) rfl (hb hby at_134) rfl (teq (rfl : (1 : Int32) = (1 : Int32))).1 (by decide) (by decide) ?_
   show GO p e below T682 (mkF m 139 (la24 p0 p1 p2 p3 (0 : Int32) c0 c1 c2 b673 b675 t_682) []) _
   refine XS.aload X682.here hx rfl (hb hby at_139) rfl rfl ?_
   show GO p e below T682 (mkF m 141 (la24 p0 p1 p2 p3 (0 : Int32) c0 c1 c2 b673 b675 t_682) [(.ref t_682)]) _
   refine XS.iload X682.here hx rfl (hb hby at_141) rfl ?_
   show GO p e below T682 (mkF m 143 (la24 p0 p1 p2 p3 (0 : Int32) c0 c1 c2 b673 b675 t_682) [(.int 0), (.ref t_682)]) _
   refine X682.baloadBytes hx (j := (0 : Int32)) (v := (.int 10)) (by rw [e682]; exact Ar686.1) (State.isArrayOf_alike hZ682.alike Ar686.2.1) Ar686.2.2 hin686 hat686 (g := (mkF m 143 (la24 p0 p1 p2 p3 (0 : Int32) c0 c1 c2 b673 b675 t_682) [(.int 0), (.ref t_682)])) rfl rfl (hb hby at_143) _ ?_
   show GO p e below T682 (mkF m 144 (la24 p0 p1 p2 p3 (0 : Int32) c0 c1 c2 b673 b675 t_682) [(.int 10)]) _
   refine XS.bipush X682.here hx rfl (hb hby at_144) ?_
   show GO p e below T682 (mkF m 146 (la24 p0 p1 p2 p3 (0 : Int32) c0 c1 c2 b673 b675 t_682) [(.int 10), (.int 10)]) _
   refine XS.icmpYes X682.here hx rfl (pc0 := 146) (pc' := 151) rfl (hb hby at_146) rfl (teq (rfl : (10 : Int32) = (10 : Int32))).1 (by decide) (by decide) ?_
   show GO p e below T682 (mkF m 151 (la24 p0 p1 p2 p3 (0 : Int32) c0 c1 c2 b673 b675 t_682) []) _
   refine XS.iload X682.here hx rfl (hb hby at_151) rfl ?_
   show GO p e below T682 (mkF m 153 (la24 p0 p1 p2 p3 (0 : Int32) c0 c1 c2 b673 b675 t_682) [(.int 0)]) _
   refine XS.iconst X682.here hx rfl (hb hby at_153) ?_
   show GO p e below T682 (mkF m 154 (la24 p0 p1 p2 p3 (0 : Int32) c0 c1 c2 b673 b675 t_682) [(.int 1), (.int 0)]) _
   refine XS.icmpYes X682.here hx rfl (pc0 := 154) (pc' := 169) rfl (hb hby at_154) rfl (tlt ((by decide) : (0 : Int32) < (1 : Int32))).1 (by decide) (by decide) ?_
   show GO p e below T682 (mkF m 169 (la24 p0 p1 p2 p3 (0 : Int32) c0 c1 c2 b673 b675 t_682) []) _
   refine XS.iload X682.here hx rfl (hb hby at_169) rfl ?_
   show GO p e below T682 (mkF m 171 (la24 p0 p1 p2 p3 (0 : Int32) c0 c1 c2 b673 b675 t_682) [(.int 0)]) _
   refine XS.iconst X682.here hx rfl (hb hby at_171) ?_
   show GO p e below T682 (mkF m 172 (la24 p0 p1 p2 p3 (0 : Int32) c0 c1 c2 b673 b675 t_682) [(.int 2), (.int 0)]) _
   refine XS.icmpYes X682.here hx rfl (pc0 := 172) (pc' := 187) rfl (hb hby at_172) rfl (tlt ((by decide) : (0 : Int32) < (2 : Int32))).1 (by decide) (by decide) ?_
   show GO p e below T682 (mkF m 187 (la24 p0 p1 p2 p3 (0 : Int32) c0 c1 c2 b673 b675 t_682) []) _
   refine XS.iload X682.here hx rfl (hb hby at_187) rfl ?_
   show GO p e below T682 (mkF m 189 (la24 p0 p1 p2 p3 (0 : Int32) c0 c1 c2 b673 b675 t_682) [(.int 0)]) _
   refine XS.iconst X682.here hx rfl (hb hby at_189) ?_
   show GO p e below T682 (mkF m 190 (la24 p0 p1 p2 p3 (0 : Int32) c0 c1 c2 b673 b675 t_682) [(.int 3), (.int 0)]) _
   refine XS.icmpYes X682.here hx rfl (pc0 := 190) (pc' := 205) rfl (hb hby at_190) rfl (tlt ((by decide) : (0 : Int32) < (3 : Int32))).1 (by decide) (by decide) ?_
   show GO p e below T682 (mkF m 205 (la24 p0 p1 p2 p3 (0 : Int32) c0 c1 c2 b673 b675 t_682) []) _
   refine XS.iconst X682.here hx rfl (hb hby at_205) ?_
   show GO p e below T682 (mkF m 206 (la24 p0 p1 p2 p3 (0 : Int32) c0 c1 c2 b673 b675 t_682) [(.int 1)]) _
   exact retN X682 hx (t := .boolean) Bd.returns (by simp) (hb hby at_206) hr
  ·show Qrm0 Z p0 p1 p2 p3 z0 q0 q1 q2 h0 n0 _ T682.heap _
   rw [e682]
   exact ⟨rfl, N682⟩
  ·show CHr Z EL1 s.vm s.heap T682.vm T682.heap
   rw [hh, e682]
   exact CE
 ·obtain ⟨T687, h687, k687, X687, e687, E687, A687, st687⟩ := newP X0 hx hZ (wd hw 0 rfl) e0 (g := (mkF m 46 (la21 p0 p1 p2 p3 (1 : Int32) c0 c1 c2) [(.int 1)])) rfl (hb hby at_46) rfl (by decide) (cap := 1) (by decide) (by decide) (by decide) (by decide)
  obtain ⟨b687, g687⟩ : ∃ z, z = h0.size := ⟨_, rfl⟩
  rw [← g687] at A687 st687
  have C688 : CHr Z EL1 s.vm h0 s.vm h687 := C0.trans (CHr.ext E687 C0.1)
  have sz687 : h0.size ≤ h687.size := E687.1
  have lt687 := ltA A687.lt
  have V687 : Arv Z h687 b687 k687 .char (1 : Int32) [(.int 0)] (.int 0) := (Arv.new A687 (by decide)).pad (pad_rep [] (.int 0) 1)
  obtain ⟨cl689, Ar689, q689, S689, M689, H689, G689⟩ := id V687
  have hin689 : ¬ ((0 : Int32) < 0 ∨ cl689.slots.size ≤ ((0 : Int32)).toNatClampNeg) := inb_of S689 ⟨by decide, by decide⟩
  obtain ⟨T690, h690, X690, e690, W690, st690⟩ := stC X687 hx hZ e687 Ar689 (j := (0 : Int32)) hin689 (g := (mkF m 52 (la21 p0 p1 p2 p3 (1 : Int32) c0 c1 c2) [(.int c0), (.int 0), (.ref b687), (.ref b687)])) rfl rfl (hb hby at_52)
  have N690 := Fr.snoc X690 N0 (by omega : n0 ≤ b687)
  have C691 : CHr Z EL1 s.vm h0 s.vm h690 := C688.trans (CHr.wr W690 (Safe.arv hZ.alike V687 (by decide)) C688.1)
  have sz690 : h687.size ≤ h690.size := Nat.le_of_eq W690.size.symm
  have V690 : Arv Z h690 b687 k687 .char (1 : Int32) [(.int (nar .char c0))] (.int 0) := Arv.set Ar689 q689 S689 M689 H689 G689 (fits_nar_char _) W690 0 rfl (Nat.le_of_ble_eq_true rfl)
  have V692 : Arv Z h690 b687 k687 .char (1 : Int32) [(.int c0)] (.int 0) := by
   have q := V690
   rw [qc0] at q
   exact q
  obtain ⟨T693, h693, X693, e693, E693, A693, D693, U693, st693⟩ := newO X690 hx hZ hown (wd hw 1 rfl) (wd hw 2 rfl) (wd hw 3 rfl) e690 (g := (mkF m 102 (la22 p0 p1 p2 p3 (1 : Int32) c0 c1 c2 b687) [])) rfl (hb hby at_102) (by decide) (by decide)
  obtain ⟨b693, g693⟩ : ∃ z, z = h690.size := ⟨_, rfl⟩
  rw [← g693] at A693 D693 U693 st693
  have C694 : CHr Z EL1 s.vm h0 s.vm h693 := C691.trans (CHr.ext E693 C691.1)
  have sz693 : h690.size ≤ h693.size := E693.1
  have lt693 := ltA A693.lt
  have B693 : Safe Z EL1 s.vm h693 b693 := Safe.ext E693 C691.1 (Safe.new (by omega))
  have f695 : Fld Z h693 b693 kS1 "value" "[B" .null := D693 (Or.inr (wd hw 16 rfl)) (ty := (.array .byte)) (by decide)
  have f696 : Fld Z h693 b693 kS1 "coder" "B" (.int 0) := D693 (Or.inr (wd hw 17 rfl)) (ty := .byte) (by decide)
  have f697 : Arv Z h693 b687 k687 .char (1 : Int32) [(.int c0)] (.int 0) := (V692.ext E693)
  have f698 : Old Z n0 h693 := (((O0.ext E687).wr W690 (by omega)).ext E693)
  have S699 : Sta Z h693 kS1 "COMPACT_STRINGS" "Z" (.int z0) := SZc.ext f698.2
  obtain ⟨v700, _, ⟨T700, L700, k700, n700⟩, -, X700, ⟨Lc700, hQ700, l700, y700, z700⟩, st700⟩ := X693.specialBack hx (y := (⟨kS1, "<init>", "([C)V"⟩ : MethodName)) rfl hown (mvT hZ (wd hw 4 rfl)) (mvT hZ (wd hw 5 rfl)) (mvT hZ (wd hw 6 rfl)) (by decide) (StrChars.Road.backV (W := 1) hZ (own_hws hw) (kI := 4) (wd hw 2 rfl) (cs := ([c0] : List Int32)) (bs := ([c0] : List Int32).map (fun c => c.toInt8.toInt32)) (n := 1) (n0 := n0) (by omega) (by omega) A693 f695 f696 f697 S699 hz0 rfl rfl (by decide) (by decide) (own_allS rc0 own_all0) rfl (by decide) (by decide)) (g := (mkF m 108 (la22 p0 p1 p2 p3 (1 : Int32) c0 c1 c2 b687) [(.ref b687), (.ref b693), (.ref b693)])) rfl (by rw [hml]; rfl) (Steps.refl _) (a := b693) (argsL := [(.ref b687)]) (rest := [(.ref b693)]) (lenOf pd_22 rfl) rfl (wz rfl) (hb hby at_108) (fun _ _ => ⟨rfl, e693, (by decide : 2 + 1 ≤ _), (by decide : 5 + 1 ≤ _)⟩)
  dsimp only [Pt.U, Pt.locs, Pt.cells, Pt.slots] at X700 l700 y700 z700 st700 hQ700
  subst l700 y700 z700
  obtain ⟨h700, e700⟩ : ∃ z, T700.heap = z := ⟨_, rfl⟩
  rw [e700] at hQ700
  obtain ⟨rfl, N700q, K700, A700, Fc700, t700, kb700, u700, lo700, nt700, Fv700, V700⟩ := hQ700
  have N700 := Fr.app N690 N700q
  have C701 : CHr Z EL1 s.vm h0 s.vm h700 := C694.trans (CHr.keep K700 (sfS B693 sf0) C694.1)
  have sz700 : h693.size ≤ h700.size := K700.1
  have lt700 := ltA V700.lt
  have V702 : Arv Z h700 t700 kb700 .byte (1 : Int32) [(.int (c0.toInt8.toInt32))] (.int 0) := V700
  -- pc 115: Seal.line by rm_line1
  have f704 : Old Z n0 h700 := (f698.keep K700 (allS (by omega) all0))
  obtain ⟨_, _, ⟨T703, L703, k703, n703⟩, -, X703w, hS703w, gr703, ⟨Lc703, hQ703, l703, y703, z703, C703w⟩, st703⟩ := callSS X700 hx (y := (⟨"com/example/holdtube/holdtube/Seal", "line", "(Ljava/lang/String;)[B"⟩ : MethodName)) hown (mvT hZ (wd hw 22 rfl)) (mvT hZ (wd hw 23 rfl)) (mvT hZ (wd hw 24 rfl)) (mvT hZ (wd hw 25 rfl)) (by decide) (own_backS (W := 0) (rm_line1 l Z a0 hw [] q0 q1 q2 b693 t700 kb700 (c0.toInt8.toInt32) z0 h700 n0 (by omega) f704 A700 Fc700 Fv700 V702 (by first | assumption | decide | omega) (by first | assumption | decide | omega) (by first | assumption | decide | omega) bc0) hZ (wd hw 25 rfl) (wd hw 24 rfl) (by decide) (by decide) (own_EW hw) C701.1 sf0 all0) (g := (mkF m 115 (la23 p0 p1 p2 p3 (1 : Int32) c0 c1 c2 b687 b693) [(.ref b693)])) rfl (by rw [hml]; rfl) (argsL := [(.ref b693)]) (rest := []) (lenOf pd_23 rfl) rfl (wz rfl) (hb hby at_115) (fun _ _ => ⟨rfl, e700, (by decide : 3 + 7 ≤ _), (by decide : 6 + 36 ≤ _)⟩)
  dsimp only [Pt.U, Pt.locs, Pt.cells, Pt.slots] at X703w hS703w gr703 l703 y703 z703 st703 hQ703 C703w
  subst l703 y703 z703
  obtain ⟨X703, hS703, hZ703, hown703⟩ := rebS hS0 (by rw [e700]; omega) X703w hS703w gr703 hZ hown
  obtain ⟨h703, e703⟩ : ∃ z, T703.heap = z := ⟨_, rfl⟩
  rw [e703] at hQ703
  obtain ⟨t_703, k_703, rfl, N703q, K703, p703_0⟩ := hQ703
  have N703 := Fr.app N700 N703q
  rw [e703] at C703w hS703
  have hk703 : h703.size ≤ h703.size := Nat.le_refl _
  have C705 : CHr Z EL1 s.vm h0 T703.vm h703 := C701.trans (C703w)
  have sz703 : h700.size ≤ h703.size := K703.1
  have lt703_0 := ltA p703_0.lt
  obtain ⟨cl706, Ar706, -, S706, M706, -, -⟩ := id p703_0
  obtain ⟨cl707, Ar707, q707, S707, M707, H707, G707⟩ := id p703_0
  have hin707 : ¬ ((1 : Int32) < 0 ∨ cl707.slots.size ≤ ((1 : Int32)).toNatClampNeg) := inb_of S707 ⟨by decide, by decide⟩
  have hat707 : cl707.slots[((1 : Int32)).toNatClampNeg]? = some (.int 10) := Has.at H707 hin707 rfl
  obtain ⟨cl708, Ar708, q708, S708, M708, H708, G708⟩ := id p703_0
  have hin708 : ¬ ((0 : Int32) < 0 ∨ cl708.slots.size ≤ ((0 : Int32)).toNatClampNeg) := inb_of S708 ⟨by decide, by decide⟩
  have hat708 : cl708.slots[((0 : Int32)).toNatClampNeg]? = some (.int (c0.toInt8.toInt32)) := Has.at H708 hin708 rfl
  obtain ⟨fs, hr, hrun, hended, hE⟩ := X703.leaveW hS703 (by rw [e703]; omega) (v := some (.int 1)) (fun h => by rw [Bd.returns] at h; cases h)
  have CE := C705.trans (CHv.at X703 hZ703 (own_EW hw) C705.1)
  refine ⟨_, _, pre672 _ ?_, hrun, hended, _, _, rfl, ?_, ?_, ⟨hE.1, hE.2.1, hE.2.2.1, hE.2.2.2.mono (by decide) (by decide)⟩⟩
  ·show GO p e below s₁ (mkF m 26 (la21 p0 p1 p2 p3 (1 : Int32) c0 c1 c2) []) _
   refine XS.iload X0.here hx rfl (hb hby at_26) rfl ?_
   show GO p e below s₁ (mkF m 28 (la21 p0 p1 p2 p3 (1 : Int32) c0 c1 c2) [(.int 1)]) _
   refine XS.ifYes X0.here hx rfl (pc0 := 28) (pc' := 39) rfl (hb hby at_28) rfl ((if0 _ _).trans (feq ((by decide) : ¬ ((1 : Int32) = (0 : Int32)))).2) (by decide) (by decide) ?_
   show GO p e below s₁ (mkF m 39 (la21 p0 p1 p2 p3 (1 : Int32) c0 c1 c2) []) _
   refine XS.iload X0.here hx rfl (hb hby at_39) rfl ?_
   show GO p e below s₁ (mkF m 41 (la21 p0 p1 p2 p3 (1 : Int32) c0 c1 c2) [(.int 1)]) _
   refine XS.iconst X0.here hx rfl (hb hby at_41) ?_
   show GO p e below s₁ (mkF m 42 (la21 p0 p1 p2 p3 (1 : Int32) c0 c1 c2) [(.int 1), (.int 1)]) _
   refine XS.icmpNo X0.here hx rfl (hb hby at_42) rfl (teq (rfl : (1 : Int32) = (1 : Int32))).2 ?_
   show GO p e below s₁ (mkF m 45 (la21 p0 p1 p2 p3 (1 : Int32) c0 c1 c2) []) _
   refine XS.iconst X0.here hx rfl (hb hby at_45) ?_
   show GO p e below s₁ (mkF m 46 (la21 p0 p1 p2 p3 (1 : Int32) c0 c1 c2) [(.int 1)]) _
   refine st687 _ ?_
   show GO p e below T687 (mkF m 48 (la21 p0 p1 p2 p3 (1 : Int32) c0 c1 c2) [(.ref b687)]) _
   refine XS.dup X687.here hx rfl (hb hby at_48) rfl rfl ?_
   show GO p e below T687 (mkF m 49 (la21 p0 p1 p2 p3 (1 : Int32) c0 c1 c2) [(.ref b687), (.ref b687)]) _
   refine XS.iconst X687.here hx rfl (hb hby at_49) ?_
   show GO p e below T687 (mkF m 50 (la21 p0 p1 p2 p3 (1 : Int32) c0 c1 c2) [(.int 0), (.ref b687), (.ref b687)]) _
   refine XS.iload X687.here hx rfl (hb hby at_50) rfl ?_
   show GO p e below T687 (mkF m 52 (la21 p0 p1 p2 p3 (1 : Int32) c0 c1 c2) [(.int c0), (.int 0), (.ref b687), (.ref b687)]) _
   refine st690 _ ?_
   show GO p e below T690 (mkF m 53 (la21 p0 p1 p2 p3 (1 : Int32) c0 c1 c2) [(.ref b687)]) _
   refine XS.astore X690.here hx rfl (hb hby at_53) rfl rfl (l' := (la22 p0 p1 p2 p3 (1 : Int32) c0 c1 c2 b687)) rfl ?_
   show GO p e below T690 (mkF m 55 (la22 p0 p1 p2 p3 (1 : Int32) c0 c1 c2 b687) []) _
   refine XS.goto X690.here hx rfl (pc0 := 55) (pc' := 102) rfl (hb hby at_55) (by decide) (by decide) ?_
   show GO p e below T690 (mkF m 102 (la22 p0 p1 p2 p3 (1 : Int32) c0 c1 c2 b687) []) _
   refine st693 _ ?_
   show GO p e below T693 (mkF m 105 (la22 p0 p1 p2 p3 (1 : Int32) c0 c1 c2 b687) [(.ref b693)]) _
   refine XS.dup X693.here hx rfl (hb hby at_105) rfl rfl ?_
   show GO p e below T693 (mkF m 106 (la22 p0 p1 p2 p3 (1 : Int32) c0 c1 c2 b687) [(.ref b693), (.ref b693)]) _
   refine XS.aload X693.here hx rfl (hb hby at_106) rfl rfl ?_
   show GO p e below T693 (mkF m 108 (la22 p0 p1 p2 p3 (1 : Int32) c0 c1 c2 b687) [(.ref b687), (.ref b693), (.ref b693)]) _
   refine st700.trans ?_
   show GO p e below T700 (mkF m 111 (la22 p0 p1 p2 p3 (1 : Int32) c0 c1 c2 b687) [(.ref b693)]) _
   refine XS.astore X700.here hx rfl (hb hby at_111) rfl rfl (l' := (la23 p0 p1 p2 p3 (1 : Int32) c0 c1 c2 b687 b693)) rfl ?_
   show GO p e below T700 (mkF m 113 (la23 p0 p1 p2 p3 (1 : Int32) c0 c1 c2 b687 b693) []) _
   refine XS.aload X700.here hx rfl (hb hby at_113) rfl rfl ?_
   show GO p e below T700 (mkF m 115 (la23 p0 p1 p2 p3 (1 : Int32) c0 c1 c2 b687 b693) [(.ref b693)]) _
   refine st703.trans ?_
   show GO p e below T703 (mkF m 118 (la23 p0 p1 p2 p3 (1 : Int32) c0 c1 c2 b687 b693) [(.ref t_703)]) _
   refine XS.astore X703.here hx rfl (hb hby at_118) rfl rfl (l' := (la24 p0 p1 p2 p3 (1 : Int32) c0 c1 c2 b687 b693 t_703)) rfl ?_
   show GO p e below T703 (mkF m 120 (la24 p0 p1 p2 p3 (1 : Int32) c0 c1 c2 b687 b693 t_703) []) _
   refine XS.aload X703.here hx rfl (hb hby at_120) rfl rfl ?_
   show GO p e below T703 (mkF m 122 (la24 p0 p1 p2 p3 (1 : Int32) c0 c1 c2 b687 b693 t_703) [(.ref t_703)]) _
   refine XS.ifnonnullYes X703.here hx rfl (pc0 := 122) (pc' := 127) rfl (hb hby at_122) rfl (by decide) (by decide) ?_
   show GO p e below T703 (mkF m 127 (la24 p0 p1 p2 p3 (1 : Int32) c0 c1 c2 b687 b693 t_703) []) _
   refine XS.aload X703.here hx rfl (hb hby at_127) rfl rfl ?_
   show GO p e below T703 (mkF m 129 (la24 p0 p1 p2 p3 (1 : Int32) c0 c1 c2 b687 b693 t_703) [(.ref t_703)]) _
   refine X703.arraylength hx (by rw [e703]; exact Ar706.1) (State.isArrayOf_alike hZ703.alike Ar706.2.1) (g := (mkF m 129 (la24 p0 p1 p2 p3 (1 : Int32) c0 c1 c2 b687 b693 t_703) [(.ref t_703)])) rfl rfl (hb hby at_129) _ ?_
   rw [len_of S706 M706]
   show GO p e below T703 (mkF m 130 (la24 p0 p1 p2 p3 (1 : Int32) c0 c1 c2 b687 b693 t_703) [(.int 2)]) _
   refine XS.iload X703.here hx rfl (hb hby at_130) rfl ?_
   show GO p e below T703 (mkF m 132 (la24 p0 p1 p2 p3 (1 : Int32) c0 c1 c2 b687 b693 t_703) [(.int 1), (.int 2)]) _
   refine XS.iconst X703.here hx rfl (hb hby at_132) ?_
   show GO p e below T703 (mkF m 133 (la24 p0 p1 p2 p3 (1 : Int32) c0 c1 c2 b687 b693 t_703) [(.int 1), (.int 1), (.int 2)]) _
   refine XS.iadd X703.here hx rfl (hb hby at_133) rfl ?_
   rw [show ((1 : Int32) + (1 : Int32)) = (2 : Int32) from by decide]
   show GO p e below T703 (mkF m 134 (la24 p0 p1 p2 p3 (1 : Int32) c0 c1 c2 b687 b693 t_703) [(.int 2), (.int 2)]) _
   refine XS.icmpYes X703.here hx rfl (pc0 := 134) (pc' := 139) rfl (hb hby at_134) rfl (teq (rfl : (2 : Int32) = (2 : Int32))).1 (by decide) (by decide) ?_
   show GO p e below T703 (mkF m 139 (la24 p0 p1 p2 p3 (1 : Int32) c0 c1 c2 b687 b693 t_703) []) _
   refine XS.aload X703.here hx rfl (hb hby at_139) rfl rfl ?_
   show GO p e below T703 (mkF m 141 (la24 p0 p1 p2 p3 (1 : Int32) c0 c1 c2 b687 b693 t_703) [(.ref t_703)]) _
   refine XS.iload X703.here hx rfl (hb hby at_141) rfl ?_
   show GO p e below T703 (mkF m 143 (la24 p0 p1 p2 p3 (1 : Int32) c0 c1 c2 b687 b693 t_703) [(.int 1), (.ref t_703)]) _
   refine X703.baloadBytes hx (j := (1 : Int32)) (v := (.int 10)) (by rw [e703]; exact Ar707.1) (State.isArrayOf_alike hZ703.alike Ar707.2.1) Ar707.2.2 hin707 hat707 (g := (mkF m 143 (la24 p0 p1 p2 p3 (1 : Int32) c0 c1 c2 b687 b693 t_703) [(.int 1), (.ref t_703)])) rfl rfl (hb hby at_143) _ ?_
   show GO p e below T703 (mkF m 144 (la24 p0 p1 p2 p3 (1 : Int32) c0 c1 c2 b687 b693 t_703) [(.int 10)]) _
   refine XS.bipush X703.here hx rfl (hb hby at_144) ?_
   show GO p e below T703 (mkF m 146 (la24 p0 p1 p2 p3 (1 : Int32) c0 c1 c2 b687 b693 t_703) [(.int 10), (.int 10)]) _
   refine XS.icmpYes X703.here hx rfl (pc0 := 146) (pc' := 151) rfl (hb hby at_146) rfl (teq (rfl : (10 : Int32) = (10 : Int32))).1 (by decide) (by decide) ?_
   show GO p e below T703 (mkF m 151 (la24 p0 p1 p2 p3 (1 : Int32) c0 c1 c2 b687 b693 t_703) []) _
   refine XS.iload X703.here hx rfl (hb hby at_151) rfl ?_
   show GO p e below T703 (mkF m 153 (la24 p0 p1 p2 p3 (1 : Int32) c0 c1 c2 b687 b693 t_703) [(.int 1)]) _
   refine XS.iconst X703.here hx rfl (hb hby at_153) ?_
   show GO p e below T703 (mkF m 154 (la24 p0 p1 p2 p3 (1 : Int32) c0 c1 c2 b687 b693 t_703) [(.int 1), (.int 1)]) _
   refine XS.icmpNo X703.here hx rfl (hb hby at_154) rfl (flt ((by decide) : ¬ ((1 : Int32) < (1 : Int32)))).1 ?_
   show GO p e below T703 (mkF m 157 (la24 p0 p1 p2 p3 (1 : Int32) c0 c1 c2 b687 b693 t_703) []) _
   refine XS.aload X703.here hx rfl (hb hby at_157) rfl rfl ?_
   show GO p e below T703 (mkF m 159 (la24 p0 p1 p2 p3 (1 : Int32) c0 c1 c2 b687 b693 t_703) [(.ref t_703)]) _
   refine XS.iconst X703.here hx rfl (hb hby at_159) ?_
   show GO p e below T703 (mkF m 160 (la24 p0 p1 p2 p3 (1 : Int32) c0 c1 c2 b687 b693 t_703) [(.int 0), (.ref t_703)]) _
   refine X703.baloadBytes hx (j := (0 : Int32)) (v := (.int (c0.toInt8.toInt32))) (by rw [e703]; exact Ar708.1) (State.isArrayOf_alike hZ703.alike Ar708.2.1) Ar708.2.2 hin708 hat708 (g := (mkF m 160 (la24 p0 p1 p2 p3 (1 : Int32) c0 c1 c2 b687 b693 t_703) [(.int 0), (.ref t_703)])) rfl rfl (hb hby at_160) _ ?_
   show GO p e below T703 (mkF m 161 (la24 p0 p1 p2 p3 (1 : Int32) c0 c1 c2 b687 b693 t_703) [(.int (c0.toInt8.toInt32))]) _
   refine XS.iload X703.here hx rfl (hb hby at_161) rfl ?_
   show GO p e below T703 (mkF m 163 (la24 p0 p1 p2 p3 (1 : Int32) c0 c1 c2 b687 b693 t_703) [(.int c0), (.int (c0.toInt8.toInt32))]) _
   refine XS.i2b X703.here hx rfl (hb hby at_163) rfl ?_
   show GO p e below T703 (mkF m 164 (la24 p0 p1 p2 p3 (1 : Int32) c0 c1 c2 b687 b693 t_703) [(.int (c0.toInt8.toInt32)), (.int (c0.toInt8.toInt32))]) _
   refine XS.icmpYes X703.here hx rfl (pc0 := 164) (pc' := 169) rfl (hb hby at_164) rfl (teq (rfl : (c0.toInt8.toInt32) = (c0.toInt8.toInt32))).1 (by decide) (by decide) ?_
   show GO p e below T703 (mkF m 169 (la24 p0 p1 p2 p3 (1 : Int32) c0 c1 c2 b687 b693 t_703) []) _
   refine XS.iload X703.here hx rfl (hb hby at_169) rfl ?_
   show GO p e below T703 (mkF m 171 (la24 p0 p1 p2 p3 (1 : Int32) c0 c1 c2 b687 b693 t_703) [(.int 1)]) _
   refine XS.iconst X703.here hx rfl (hb hby at_171) ?_
   show GO p e below T703 (mkF m 172 (la24 p0 p1 p2 p3 (1 : Int32) c0 c1 c2 b687 b693 t_703) [(.int 2), (.int 1)]) _
   refine XS.icmpYes X703.here hx rfl (pc0 := 172) (pc' := 187) rfl (hb hby at_172) rfl (tlt ((by decide) : (1 : Int32) < (2 : Int32))).1 (by decide) (by decide) ?_
   show GO p e below T703 (mkF m 187 (la24 p0 p1 p2 p3 (1 : Int32) c0 c1 c2 b687 b693 t_703) []) _
   refine XS.iload X703.here hx rfl (hb hby at_187) rfl ?_
   show GO p e below T703 (mkF m 189 (la24 p0 p1 p2 p3 (1 : Int32) c0 c1 c2 b687 b693 t_703) [(.int 1)]) _
   refine XS.iconst X703.here hx rfl (hb hby at_189) ?_
   show GO p e below T703 (mkF m 190 (la24 p0 p1 p2 p3 (1 : Int32) c0 c1 c2 b687 b693 t_703) [(.int 3), (.int 1)]) _
   refine XS.icmpYes X703.here hx rfl (pc0 := 190) (pc' := 205) rfl (hb hby at_190) rfl (tlt ((by decide) : (1 : Int32) < (3 : Int32))).1 (by decide) (by decide) ?_
   show GO p e below T703 (mkF m 205 (la24 p0 p1 p2 p3 (1 : Int32) c0 c1 c2 b687 b693 t_703) []) _
   refine XS.iconst X703.here hx rfl (hb hby at_205) ?_
   show GO p e below T703 (mkF m 206 (la24 p0 p1 p2 p3 (1 : Int32) c0 c1 c2 b687 b693 t_703) [(.int 1)]) _
   exact retN X703 hx (t := .boolean) Bd.returns (by simp) (hb hby at_206) hr
  ·show Qrm0 Z p0 p1 p2 p3 z0 q0 q1 q2 h0 n0 _ T703.heap _
   rw [e703]
   exact ⟨rfl, N703⟩
  ·show CHr Z EL1 s.vm s.heap T703.vm T703.heap
   rw [hh, e703]
   exact CE
 ·obtain ⟨T709, h709, k709, X709, e709, E709, A709, st709⟩ := newP X0 hx hZ (wd hw 0 rfl) e0 (g := (mkF m 65 (la21 p0 p1 p2 p3 (2 : Int32) c0 c1 c2) [(.int 2)])) rfl (hb hby at_65) rfl (by decide) (cap := 2) (by decide) (by decide) (by decide) (by decide)
  obtain ⟨b709, g709⟩ : ∃ z, z = h0.size := ⟨_, rfl⟩
  rw [← g709] at A709 st709
  have C710 : CHr Z EL1 s.vm h0 s.vm h709 := C0.trans (CHr.ext E709 C0.1)
  have sz709 : h0.size ≤ h709.size := E709.1
  have lt709 := ltA A709.lt
  have V709 : Arv Z h709 b709 k709 .char (2 : Int32) [(.int 0), (.int 0)] (.int 0) := (Arv.new A709 (by decide)).pad (pad_rep [] (.int 0) 2)
  obtain ⟨cl711, Ar711, q711, S711, M711, H711, G711⟩ := id V709
  have hin711 : ¬ ((0 : Int32) < 0 ∨ cl711.slots.size ≤ ((0 : Int32)).toNatClampNeg) := inb_of S711 ⟨by decide, by decide⟩
  obtain ⟨T712, h712, X712, e712, W712, st712⟩ := stC X709 hx hZ e709 Ar711 (j := (0 : Int32)) hin711 (g := (mkF m 71 (la21 p0 p1 p2 p3 (2 : Int32) c0 c1 c2) [(.int c0), (.int 0), (.ref b709), (.ref b709)])) rfl rfl (hb hby at_71)
  have N712 := Fr.snoc X712 N0 (by omega : n0 ≤ b709)
  have C713 : CHr Z EL1 s.vm h0 s.vm h712 := C710.trans (CHr.wr W712 (Safe.arv hZ.alike V709 (by decide)) C710.1)
  have sz712 : h709.size ≤ h712.size := Nat.le_of_eq W712.size.symm
  have V712 : Arv Z h712 b709 k709 .char (2 : Int32) [(.int (nar .char c0)), (.int 0)] (.int 0) := Arv.set Ar711 q711 S711 M711 H711 G711 (fits_nar_char _) W712 0 rfl (Nat.le_of_ble_eq_true rfl)
  obtain ⟨cl714, Ar714, q714, S714, M714, H714, G714⟩ := id V712
  have hin714 : ¬ ((1 : Int32) < 0 ∨ cl714.slots.size ≤ ((1 : Int32)).toNatClampNeg) := inb_of S714 ⟨by decide, by decide⟩
  obtain ⟨T715, h715, X715, e715, W715, st715⟩ := stC X712 hx hZ e712 Ar714 (j := (1 : Int32)) hin714 (g := (mkF m 76 (la21 p0 p1 p2 p3 (2 : Int32) c0 c1 c2) [(.int c1), (.int 1), (.ref b709), (.ref b709)])) rfl rfl (hb hby at_76)
  have N715 := Fr.snoc X715 N712 (by omega : n0 ≤ b709)
  have C716 : CHr Z EL1 s.vm h0 s.vm h715 := C713.trans (CHr.wr W715 (Safe.arv hZ.alike V712 (by decide)) C713.1)
  have sz715 : h712.size ≤ h715.size := Nat.le_of_eq W715.size.symm
  have V715 : Arv Z h715 b709 k709 .char (2 : Int32) [(.int (nar .char c0)), (.int (nar .char c1))] (.int 0) := Arv.set Ar714 q714 S714 M714 H714 G714 (fits_nar_char _) W715 1 rfl (Nat.le_of_ble_eq_true rfl)
  have V717 : Arv Z h715 b709 k709 .char (2 : Int32) [(.int c0), (.int c1)] (.int 0) := by
   have q := V715
   rw [qc0, qc1] at q
   exact q
  obtain ⟨T718, h718, X718, e718, E718, A718, D718, U718, st718⟩ := newO X715 hx hZ hown (wd hw 1 rfl) (wd hw 2 rfl) (wd hw 3 rfl) e715 (g := (mkF m 102 (la22 p0 p1 p2 p3 (2 : Int32) c0 c1 c2 b709) [])) rfl (hb hby at_102) (by decide) (by decide)
  obtain ⟨b718, g718⟩ : ∃ z, z = h715.size := ⟨_, rfl⟩
  rw [← g718] at A718 D718 U718 st718
  have C719 : CHr Z EL1 s.vm h0 s.vm h718 := C716.trans (CHr.ext E718 C716.1)
  have sz718 : h715.size ≤ h718.size := E718.1
  have lt718 := ltA A718.lt
  have B718 : Safe Z EL1 s.vm h718 b718 := Safe.ext E718 C716.1 (Safe.new (by omega))
  have f720 : Fld Z h718 b718 kS1 "value" "[B" .null := D718 (Or.inr (wd hw 16 rfl)) (ty := (.array .byte)) (by decide)
  have f721 : Fld Z h718 b718 kS1 "coder" "B" (.int 0) := D718 (Or.inr (wd hw 17 rfl)) (ty := .byte) (by decide)
  have f722 : Arv Z h718 b709 k709 .char (2 : Int32) [(.int c0), (.int c1)] (.int 0) := (V717.ext E718)
  have f723 : Old Z n0 h718 := ((((O0.ext E709).wr W712 (by omega)).wr W715 (by omega)).ext E718)
  have S724 : Sta Z h718 kS1 "COMPACT_STRINGS" "Z" (.int z0) := SZc.ext f723.2
  obtain ⟨v725, _, ⟨T725, L725, k725, n725⟩, -, X725, ⟨Lc725, hQ725, l725, y725, z725⟩, st725⟩ := X718.specialBack hx (y := (⟨kS1, "<init>", "([C)V"⟩ : MethodName)) rfl hown (mvT hZ (wd hw 4 rfl)) (mvT hZ (wd hw 5 rfl)) (mvT hZ (wd hw 6 rfl)) (by decide) (StrChars.Road.backV (W := 1) hZ (own_hws hw) (kI := 4) (wd hw 2 rfl) (cs := ([c0, c1] : List Int32)) (bs := ([c0, c1] : List Int32).map (fun c => c.toInt8.toInt32)) (n := 2) (n0 := n0) (by omega) (by omega) A718 f720 f721 f722 S724 hz0 rfl rfl (by decide) (by decide) (own_allS rc0 (own_allS rc1 own_all0)) rfl (by decide) (by decide)) (g := (mkF m 108 (la22 p0 p1 p2 p3 (2 : Int32) c0 c1 c2 b709) [(.ref b709), (.ref b718), (.ref b718)])) rfl (by rw [hml]; rfl) (Steps.refl _) (a := b718) (argsL := [(.ref b709)]) (rest := [(.ref b718)]) (lenOf pd_22 rfl) rfl (wz rfl) (hb hby at_108) (fun _ _ => ⟨rfl, e718, (by decide : 2 + 1 ≤ _), (by decide : 6 + 2 ≤ _)⟩)
  dsimp only [Pt.U, Pt.locs, Pt.cells, Pt.slots] at X725 l725 y725 z725 st725 hQ725
  subst l725 y725 z725
  obtain ⟨h725, e725⟩ : ∃ z, T725.heap = z := ⟨_, rfl⟩
  rw [e725] at hQ725
  obtain ⟨rfl, N725q, K725, A725, Fc725, t725, kb725, u725, lo725, nt725, Fv725, V725⟩ := hQ725
  have N725 := Fr.app N715 N725q
  have C726 : CHr Z EL1 s.vm h0 s.vm h725 := C719.trans (CHr.keep K725 (sfS B718 sf0) C719.1)
  have sz725 : h718.size ≤ h725.size := K725.1
  have lt725 := ltA V725.lt
  have V727 : Arv Z h725 t725 kb725 .byte (2 : Int32) [(.int (c0.toInt8.toInt32)), (.int (c1.toInt8.toInt32))] (.int 0) := V725
  -- pc 115: Seal.line by rm_line2
  have f729 : Old Z n0 h725 := (f723.keep K725 (allS (by omega) all0))
  obtain ⟨_, _, ⟨T728, L728, k728, n728⟩, -, X728w, hS728w, gr728, ⟨Lc728, hQ728, l728, y728, z728, C728w⟩, st728⟩ := callSS X725 hx (y := (⟨"com/example/holdtube/holdtube/Seal", "line", "(Ljava/lang/String;)[B"⟩ : MethodName)) hown (mvT hZ (wd hw 22 rfl)) (mvT hZ (wd hw 23 rfl)) (mvT hZ (wd hw 24 rfl)) (mvT hZ (wd hw 25 rfl)) (by decide) (own_backS (W := 0) (rm_line2 l Z a0 hw [] q0 q1 q2 b718 t725 kb725 (c0.toInt8.toInt32) (c1.toInt8.toInt32) z0 h725 n0 (by omega) f729 A725 Fc725 Fv725 V727 (by first | assumption | decide | omega) (by first | assumption | decide | omega) (by first | assumption | decide | omega) bc0 bc1) hZ (wd hw 25 rfl) (wd hw 24 rfl) (by decide) (by decide) (own_EW hw) C726.1 sf0 all0) (g := (mkF m 115 (la23 p0 p1 p2 p3 (2 : Int32) c0 c1 c2 b709 b718) [(.ref b718)])) rfl (by rw [hml]; rfl) (argsL := [(.ref b718)]) (rest := []) (lenOf pd_23 rfl) rfl (wz rfl) (hb hby at_115) (fun _ _ => ⟨rfl, e725, (by decide : 3 + 7 ≤ _), (by decide : 8 + 38 ≤ _)⟩)
  dsimp only [Pt.U, Pt.locs, Pt.cells, Pt.slots] at X728w hS728w gr728 l728 y728 z728 st728 hQ728 C728w
  subst l728 y728 z728
  obtain ⟨X728, hS728, hZ728, hown728⟩ := rebS hS0 (by rw [e725]; omega) X728w hS728w gr728 hZ hown
  obtain ⟨h728, e728⟩ : ∃ z, T728.heap = z := ⟨_, rfl⟩
  rw [e728] at hQ728
  obtain ⟨t_728, k_728, rfl, N728q, K728, p728_0⟩ := hQ728
  have N728 := Fr.app N725 N728q
  rw [e728] at C728w hS728
  have hk728 : h728.size ≤ h728.size := Nat.le_refl _
  have C730 : CHr Z EL1 s.vm h0 T728.vm h728 := C726.trans (C728w)
  have sz728 : h725.size ≤ h728.size := K728.1
  have lt728_0 := ltA p728_0.lt
  obtain ⟨cl731, Ar731, -, S731, M731, -, -⟩ := id p728_0
  obtain ⟨cl732, Ar732, q732, S732, M732, H732, G732⟩ := id p728_0
  have hin732 : ¬ ((2 : Int32) < 0 ∨ cl732.slots.size ≤ ((2 : Int32)).toNatClampNeg) := inb_of S732 ⟨by decide, by decide⟩
  have hat732 : cl732.slots[((2 : Int32)).toNatClampNeg]? = some (.int 10) := Has.at H732 hin732 rfl
  obtain ⟨cl733, Ar733, q733, S733, M733, H733, G733⟩ := id p728_0
  have hin733 : ¬ ((0 : Int32) < 0 ∨ cl733.slots.size ≤ ((0 : Int32)).toNatClampNeg) := inb_of S733 ⟨by decide, by decide⟩
  have hat733 : cl733.slots[((0 : Int32)).toNatClampNeg]? = some (.int (c0.toInt8.toInt32)) := Has.at H733 hin733 rfl
  obtain ⟨cl734, Ar734, q734, S734, M734, H734, G734⟩ := id p728_0
  have hin734 : ¬ ((1 : Int32) < 0 ∨ cl734.slots.size ≤ ((1 : Int32)).toNatClampNeg) := inb_of S734 ⟨by decide, by decide⟩
  have hat734 : cl734.slots[((1 : Int32)).toNatClampNeg]? = some (.int (c1.toInt8.toInt32)) := Has.at H734 hin734 rfl
  obtain ⟨fs, hr, hrun, hended, hE⟩ := X728.leaveW hS728 (by rw [e728]; omega) (v := some (.int 1)) (fun h => by rw [Bd.returns] at h; cases h)
  have CE := C730.trans (CHv.at X728 hZ728 (own_EW hw) C730.1)
  refine ⟨_, _, pre672 _ ?_, hrun, hended, _, _, rfl, ?_, ?_, ⟨hE.1, hE.2.1, hE.2.2.1, hE.2.2.2.mono (by decide) (by decide)⟩⟩
  ·show GO p e below s₁ (mkF m 26 (la21 p0 p1 p2 p3 (2 : Int32) c0 c1 c2) []) _
   refine XS.iload X0.here hx rfl (hb hby at_26) rfl ?_
   show GO p e below s₁ (mkF m 28 (la21 p0 p1 p2 p3 (2 : Int32) c0 c1 c2) [(.int 2)]) _
   refine XS.ifYes X0.here hx rfl (pc0 := 28) (pc' := 39) rfl (hb hby at_28) rfl ((if0 _ _).trans (feq ((by decide) : ¬ ((2 : Int32) = (0 : Int32)))).2) (by decide) (by decide) ?_
   show GO p e below s₁ (mkF m 39 (la21 p0 p1 p2 p3 (2 : Int32) c0 c1 c2) []) _
   refine XS.iload X0.here hx rfl (hb hby at_39) rfl ?_
   show GO p e below s₁ (mkF m 41 (la21 p0 p1 p2 p3 (2 : Int32) c0 c1 c2) [(.int 2)]) _
   refine XS.iconst X0.here hx rfl (hb hby at_41) ?_
   show GO p e below s₁ (mkF m 42 (la21 p0 p1 p2 p3 (2 : Int32) c0 c1 c2) [(.int 1), (.int 2)]) _
   refine XS.icmpYes X0.here hx rfl (pc0 := 42) (pc' := 58) rfl (hb hby at_42) rfl (feq ((by decide) : ¬ ((2 : Int32) = (1 : Int32)))).2 (by decide) (by decide) ?_
   show GO p e below s₁ (mkF m 58 (la21 p0 p1 p2 p3 (2 : Int32) c0 c1 c2) []) _
   refine XS.iload X0.here hx rfl (hb hby at_58) rfl ?_
   show GO p e below s₁ (mkF m 60 (la21 p0 p1 p2 p3 (2 : Int32) c0 c1 c2) [(.int 2)]) _
   refine XS.iconst X0.here hx rfl (hb hby at_60) ?_
   show GO p e below s₁ (mkF m 61 (la21 p0 p1 p2 p3 (2 : Int32) c0 c1 c2) [(.int 2), (.int 2)]) _
   refine XS.icmpNo X0.here hx rfl (hb hby at_61) rfl (teq (rfl : (2 : Int32) = (2 : Int32))).2 ?_
   show GO p e below s₁ (mkF m 64 (la21 p0 p1 p2 p3 (2 : Int32) c0 c1 c2) []) _
   refine XS.iconst X0.here hx rfl (hb hby at_64) ?_
   show GO p e below s₁ (mkF m 65 (la21 p0 p1 p2 p3 (2 : Int32) c0 c1 c2) [(.int 2)]) _
   refine st709 _ ?_
   show GO p e below T709 (mkF m 67 (la21 p0 p1 p2 p3 (2 : Int32) c0 c1 c2) [(.ref b709)]) _
   refine XS.dup X709.here hx rfl (hb hby at_67) rfl rfl ?_
   show GO p e below T709 (mkF m 68 (la21 p0 p1 p2 p3 (2 : Int32) c0 c1 c2) [(.ref b709), (.ref b709)]) _
   refine XS.iconst X709.here hx rfl (hb hby at_68) ?_
   show GO p e below T709 (mkF m 69 (la21 p0 p1 p2 p3 (2 : Int32) c0 c1 c2) [(.int 0), (.ref b709), (.ref b709)]) _
   refine XS.iload X709.here hx rfl (hb hby at_69) rfl ?_
   show GO p e below T709 (mkF m 71 (la21 p0 p1 p2 p3 (2 : Int32) c0 c1 c2) [(.int c0), (.int 0), (.ref b709), (.ref b709)]) _
   refine st712 _ ?_
   show GO p e below T712 (mkF m 72 (la21 p0 p1 p2 p3 (2 : Int32) c0 c1 c2) [(.ref b709)]) _
   refine XS.dup X712.here hx rfl (hb hby at_72) rfl rfl ?_
   show GO p e below T712 (mkF m 73 (la21 p0 p1 p2 p3 (2 : Int32) c0 c1 c2) [(.ref b709), (.ref b709)]) _
   refine XS.iconst X712.here hx rfl (hb hby at_73) ?_
   show GO p e below T712 (mkF m 74 (la21 p0 p1 p2 p3 (2 : Int32) c0 c1 c2) [(.int 1), (.ref b709), (.ref b709)]) _
   refine XS.iload X712.here hx rfl (hb hby at_74) rfl ?_
   show GO p e below T712 (mkF m 76 (la21 p0 p1 p2 p3 (2 : Int32) c0 c1 c2) [(.int c1), (.int 1), (.ref b709), (.ref b709)]) _
   refine st715 _ ?_
   show GO p e below T715 (mkF m 77 (la21 p0 p1 p2 p3 (2 : Int32) c0 c1 c2) [(.ref b709)]) _
   refine XS.astore X715.here hx rfl (hb hby at_77) rfl rfl (l' := (la22 p0 p1 p2 p3 (2 : Int32) c0 c1 c2 b709)) rfl ?_
   show GO p e below T715 (mkF m 79 (la22 p0 p1 p2 p3 (2 : Int32) c0 c1 c2 b709) []) _
   refine XS.goto X715.here hx rfl (pc0 := 79) (pc' := 102) rfl (hb hby at_79) (by decide) (by decide) ?_
   show GO p e below T715 (mkF m 102 (la22 p0 p1 p2 p3 (2 : Int32) c0 c1 c2 b709) []) _
   refine st718 _ ?_
   show GO p e below T718 (mkF m 105 (la22 p0 p1 p2 p3 (2 : Int32) c0 c1 c2 b709) [(.ref b718)]) _
   refine XS.dup X718.here hx rfl (hb hby at_105) rfl rfl ?_
   show GO p e below T718 (mkF m 106 (la22 p0 p1 p2 p3 (2 : Int32) c0 c1 c2 b709) [(.ref b718), (.ref b718)]) _
   refine XS.aload X718.here hx rfl (hb hby at_106) rfl rfl ?_
   show GO p e below T718 (mkF m 108 (la22 p0 p1 p2 p3 (2 : Int32) c0 c1 c2 b709) [(.ref b709), (.ref b718), (.ref b718)]) _
   refine st725.trans ?_
   show GO p e below T725 (mkF m 111 (la22 p0 p1 p2 p3 (2 : Int32) c0 c1 c2 b709) [(.ref b718)]) _
   refine XS.astore X725.here hx rfl (hb hby at_111) rfl rfl (l' := (la23 p0 p1 p2 p3 (2 : Int32) c0 c1 c2 b709 b718)) rfl ?_
   show GO p e below T725 (mkF m 113 (la23 p0 p1 p2 p3 (2 : Int32) c0 c1 c2 b709 b718) []) _
   refine XS.aload X725.here hx rfl (hb hby at_113) rfl rfl ?_
   show GO p e below T725 (mkF m 115 (la23 p0 p1 p2 p3 (2 : Int32) c0 c1 c2 b709 b718) [(.ref b718)]) _
   refine st728.trans ?_
   show GO p e below T728 (mkF m 118 (la23 p0 p1 p2 p3 (2 : Int32) c0 c1 c2 b709 b718) [(.ref t_728)]) _
   refine XS.astore X728.here hx rfl (hb hby at_118) rfl rfl (l' := (la24 p0 p1 p2 p3 (2 : Int32) c0 c1 c2 b709 b718 t_728)) rfl ?_
   show GO p e below T728 (mkF m 120 (la24 p0 p1 p2 p3 (2 : Int32) c0 c1 c2 b709 b718 t_728) []) _
   refine XS.aload X728.here hx rfl (hb hby at_120) rfl rfl ?_
   show GO p e below T728 (mkF m 122 (la24 p0 p1 p2 p3 (2 : Int32) c0 c1 c2 b709 b718 t_728) [(.ref t_728)]) _
   refine XS.ifnonnullYes X728.here hx rfl (pc0 := 122) (pc' := 127) rfl (hb hby at_122) rfl (by decide) (by decide) ?_
   show GO p e below T728 (mkF m 127 (la24 p0 p1 p2 p3 (2 : Int32) c0 c1 c2 b709 b718 t_728) []) _
   refine XS.aload X728.here hx rfl (hb hby at_127) rfl rfl ?_
   show GO p e below T728 (mkF m 129 (la24 p0 p1 p2 p3 (2 : Int32) c0 c1 c2 b709 b718 t_728) [(.ref t_728)]) _
   refine X728.arraylength hx (by rw [e728]; exact Ar731.1) (State.isArrayOf_alike hZ728.alike Ar731.2.1) (g := (mkF m 129 (la24 p0 p1 p2 p3 (2 : Int32) c0 c1 c2 b709 b718 t_728) [(.ref t_728)])) rfl rfl (hb hby at_129) _ ?_
   rw [len_of S731 M731]
   show GO p e below T728 (mkF m 130 (la24 p0 p1 p2 p3 (2 : Int32) c0 c1 c2 b709 b718 t_728) [(.int 3)]) _
   refine XS.iload X728.here hx rfl (hb hby at_130) rfl ?_
   show GO p e below T728 (mkF m 132 (la24 p0 p1 p2 p3 (2 : Int32) c0 c1 c2 b709 b718 t_728) [(.int 2), (.int 3)]) _
   refine XS.iconst X728.here hx rfl (hb hby at_132) ?_
   show GO p e below T728 (mkF m 133 (la24 p0 p1 p2 p3 (2 : Int32) c0 c1 c2 b709 b718 t_728) [(.int 1), (.int 2), (.int 3)]) _
   refine XS.iadd X728.here hx rfl (hb hby at_133) rfl ?_
   rw [show ((2 : Int32) + (1 : Int32)) = (3 : Int32) from by decide]
   show GO p e below T728 (mkF m 134 (la24 p0 p1 p2 p3 (2 : Int32) c0 c1 c2 b709 b718 t_728) [(.int 3), (.int 3)]) _
   refine XS.icmpYes X728.here hx rfl (pc0 := 134) (pc' := 139) rfl (hb hby at_134) rfl (teq (rfl : (3 : Int32) = (3 : Int32))).1 (by decide) (by decide) ?_
   show GO p e below T728 (mkF m 139 (la24 p0 p1 p2 p3 (2 : Int32) c0 c1 c2 b709 b718 t_728) []) _
   refine XS.aload X728.here hx rfl (hb hby at_139) rfl rfl ?_
   show GO p e below T728 (mkF m 141 (la24 p0 p1 p2 p3 (2 : Int32) c0 c1 c2 b709 b718 t_728) [(.ref t_728)]) _
   refine XS.iload X728.here hx rfl (hb hby at_141) rfl ?_
   show GO p e below T728 (mkF m 143 (la24 p0 p1 p2 p3 (2 : Int32) c0 c1 c2 b709 b718 t_728) [(.int 2), (.ref t_728)]) _
   refine X728.baloadBytes hx (j := (2 : Int32)) (v := (.int 10)) (by rw [e728]; exact Ar732.1) (State.isArrayOf_alike hZ728.alike Ar732.2.1) Ar732.2.2 hin732 hat732 (g := (mkF m 143 (la24 p0 p1 p2 p3 (2 : Int32) c0 c1 c2 b709 b718 t_728) [(.int 2), (.ref t_728)])) rfl rfl (hb hby at_143) _ ?_
   show GO p e below T728 (mkF m 144 (la24 p0 p1 p2 p3 (2 : Int32) c0 c1 c2 b709 b718 t_728) [(.int 10)]) _
   refine XS.bipush X728.here hx rfl (hb hby at_144) ?_
   show GO p e below T728 (mkF m 146 (la24 p0 p1 p2 p3 (2 : Int32) c0 c1 c2 b709 b718 t_728) [(.int 10), (.int 10)]) _
   refine XS.icmpYes X728.here hx rfl (pc0 := 146) (pc' := 151) rfl (hb hby at_146) rfl (teq (rfl : (10 : Int32) = (10 : Int32))).1 (by decide) (by decide) ?_
   show GO p e below T728 (mkF m 151 (la24 p0 p1 p2 p3 (2 : Int32) c0 c1 c2 b709 b718 t_728) []) _
   refine XS.iload X728.here hx rfl (hb hby at_151) rfl ?_
   show GO p e below T728 (mkF m 153 (la24 p0 p1 p2 p3 (2 : Int32) c0 c1 c2 b709 b718 t_728) [(.int 2)]) _
   refine XS.iconst X728.here hx rfl (hb hby at_153) ?_
   show GO p e below T728 (mkF m 154 (la24 p0 p1 p2 p3 (2 : Int32) c0 c1 c2 b709 b718 t_728) [(.int 1), (.int 2)]) _
   refine XS.icmpNo X728.here hx rfl (hb hby at_154) rfl (flt ((by decide) : ¬ ((2 : Int32) < (1 : Int32)))).1 ?_
   show GO p e below T728 (mkF m 157 (la24 p0 p1 p2 p3 (2 : Int32) c0 c1 c2 b709 b718 t_728) []) _
   refine XS.aload X728.here hx rfl (hb hby at_157) rfl rfl ?_
   show GO p e below T728 (mkF m 159 (la24 p0 p1 p2 p3 (2 : Int32) c0 c1 c2 b709 b718 t_728) [(.ref t_728)]) _
   refine XS.iconst X728.here hx rfl (hb hby at_159) ?_
   show GO p e below T728 (mkF m 160 (la24 p0 p1 p2 p3 (2 : Int32) c0 c1 c2 b709 b718 t_728) [(.int 0), (.ref t_728)]) _
   refine X728.baloadBytes hx (j := (0 : Int32)) (v := (.int (c0.toInt8.toInt32))) (by rw [e728]; exact Ar733.1) (State.isArrayOf_alike hZ728.alike Ar733.2.1) Ar733.2.2 hin733 hat733 (g := (mkF m 160 (la24 p0 p1 p2 p3 (2 : Int32) c0 c1 c2 b709 b718 t_728) [(.int 0), (.ref t_728)])) rfl rfl (hb hby at_160) _ ?_
   show GO p e below T728 (mkF m 161 (la24 p0 p1 p2 p3 (2 : Int32) c0 c1 c2 b709 b718 t_728) [(.int (c0.toInt8.toInt32))]) _
   refine XS.iload X728.here hx rfl (hb hby at_161) rfl ?_
   show GO p e below T728 (mkF m 163 (la24 p0 p1 p2 p3 (2 : Int32) c0 c1 c2 b709 b718 t_728) [(.int c0), (.int (c0.toInt8.toInt32))]) _
   refine XS.i2b X728.here hx rfl (hb hby at_163) rfl ?_
   show GO p e below T728 (mkF m 164 (la24 p0 p1 p2 p3 (2 : Int32) c0 c1 c2 b709 b718 t_728) [(.int (c0.toInt8.toInt32)), (.int (c0.toInt8.toInt32))]) _
   refine XS.icmpYes X728.here hx rfl (pc0 := 164) (pc' := 169) rfl (hb hby at_164) rfl (teq (rfl : (c0.toInt8.toInt32) = (c0.toInt8.toInt32))).1 (by decide) (by decide) ?_
   show GO p e below T728 (mkF m 169 (la24 p0 p1 p2 p3 (2 : Int32) c0 c1 c2 b709 b718 t_728) []) _
   refine XS.iload X728.here hx rfl (hb hby at_169) rfl ?_
   show GO p e below T728 (mkF m 171 (la24 p0 p1 p2 p3 (2 : Int32) c0 c1 c2 b709 b718 t_728) [(.int 2)]) _
   refine XS.iconst X728.here hx rfl (hb hby at_171) ?_
   show GO p e below T728 (mkF m 172 (la24 p0 p1 p2 p3 (2 : Int32) c0 c1 c2 b709 b718 t_728) [(.int 2), (.int 2)]) _
   refine XS.icmpNo X728.here hx rfl (hb hby at_172) rfl (flt ((by decide) : ¬ ((2 : Int32) < (2 : Int32)))).1 ?_
   show GO p e below T728 (mkF m 175 (la24 p0 p1 p2 p3 (2 : Int32) c0 c1 c2 b709 b718 t_728) []) _
   refine XS.aload X728.here hx rfl (hb hby at_175) rfl rfl ?_
   show GO p e below T728 (mkF m 177 (la24 p0 p1 p2 p3 (2 : Int32) c0 c1 c2 b709 b718 t_728) [(.ref t_728)]) _
   refine XS.iconst X728.here hx rfl (hb hby at_177) ?_
   show GO p e below T728 (mkF m 178 (la24 p0 p1 p2 p3 (2 : Int32) c0 c1 c2 b709 b718 t_728) [(.int 1), (.ref t_728)]) _
   refine X728.baloadBytes hx (j := (1 : Int32)) (v := (.int (c1.toInt8.toInt32))) (by rw [e728]; exact Ar734.1) (State.isArrayOf_alike hZ728.alike Ar734.2.1) Ar734.2.2 hin734 hat734 (g := (mkF m 178 (la24 p0 p1 p2 p3 (2 : Int32) c0 c1 c2 b709 b718 t_728) [(.int 1), (.ref t_728)])) rfl rfl (hb hby at_178) _ ?_
   show GO p e below T728 (mkF m 179 (la24 p0 p1 p2 p3 (2 : Int32) c0 c1 c2 b709 b718 t_728) [(.int (c1.toInt8.toInt32))]) _
   refine XS.iload X728.here hx rfl (hb hby at_179) rfl ?_
   show GO p e below T728 (mkF m 181 (la24 p0 p1 p2 p3 (2 : Int32) c0 c1 c2 b709 b718 t_728) [(.int c1), (.int (c1.toInt8.toInt32))]) _
   refine XS.i2b X728.here hx rfl (hb hby at_181) rfl ?_
   show GO p e below T728 (mkF m 182 (la24 p0 p1 p2 p3 (2 : Int32) c0 c1 c2 b709 b718 t_728) [(.int (c1.toInt8.toInt32)), (.int (c1.toInt8.toInt32))]) _
   refine XS.icmpYes X728.here hx rfl (pc0 := 182) (pc' := 187) rfl (hb hby at_182) rfl (teq (rfl : (c1.toInt8.toInt32) = (c1.toInt8.toInt32))).1 (by decide) (by decide) ?_
   show GO p e below T728 (mkF m 187 (la24 p0 p1 p2 p3 (2 : Int32) c0 c1 c2 b709 b718 t_728) []) _
   refine XS.iload X728.here hx rfl (hb hby at_187) rfl ?_
   show GO p e below T728 (mkF m 189 (la24 p0 p1 p2 p3 (2 : Int32) c0 c1 c2 b709 b718 t_728) [(.int 2)]) _
   refine XS.iconst X728.here hx rfl (hb hby at_189) ?_
   show GO p e below T728 (mkF m 190 (la24 p0 p1 p2 p3 (2 : Int32) c0 c1 c2 b709 b718 t_728) [(.int 3), (.int 2)]) _
   refine XS.icmpYes X728.here hx rfl (pc0 := 190) (pc' := 205) rfl (hb hby at_190) rfl (tlt ((by decide) : (2 : Int32) < (3 : Int32))).1 (by decide) (by decide) ?_
   show GO p e below T728 (mkF m 205 (la24 p0 p1 p2 p3 (2 : Int32) c0 c1 c2 b709 b718 t_728) []) _
   refine XS.iconst X728.here hx rfl (hb hby at_205) ?_
   show GO p e below T728 (mkF m 206 (la24 p0 p1 p2 p3 (2 : Int32) c0 c1 c2 b709 b718 t_728) [(.int 1)]) _
   exact retN X728 hx (t := .boolean) Bd.returns (by simp) (hb hby at_206) hr
  ·show Qrm0 Z p0 p1 p2 p3 z0 q0 q1 q2 h0 n0 _ T728.heap _
   rw [e728]
   exact ⟨rfl, N728⟩
  ·show CHr Z EL1 s.vm s.heap T728.vm T728.heap
   rw [hh, e728]
   exact CE
 ·obtain ⟨T735, h735, k735, X735, e735, E735, A735, st735⟩ := newP X0 hx hZ (wd hw 0 rfl) e0 (g := (mkF m 83 (la21 p0 p1 p2 p3 (3 : Int32) c0 c1 c2) [(.int 3)])) rfl (hb hby at_83) rfl (by decide) (cap := 3) (by decide) (by decide) (by decide) (by decide)
  obtain ⟨b735, g735⟩ : ∃ z, z = h0.size := ⟨_, rfl⟩
  rw [← g735] at A735 st735
  have C736 : CHr Z EL1 s.vm h0 s.vm h735 := C0.trans (CHr.ext E735 C0.1)
  have sz735 : h0.size ≤ h735.size := E735.1
  have lt735 := ltA A735.lt
  have V735 : Arv Z h735 b735 k735 .char (3 : Int32) [(.int 0), (.int 0), (.int 0)] (.int 0) := (Arv.new A735 (by decide)).pad (pad_rep [] (.int 0) 3)
  obtain ⟨cl737, Ar737, q737, S737, M737, H737, G737⟩ := id V735
  have hin737 : ¬ ((0 : Int32) < 0 ∨ cl737.slots.size ≤ ((0 : Int32)).toNatClampNeg) := inb_of S737 ⟨by decide, by decide⟩
  obtain ⟨T738, h738, X738, e738, W738, st738⟩ := stC X735 hx hZ e735 Ar737 (j := (0 : Int32)) hin737 (g := (mkF m 89 (la21 p0 p1 p2 p3 (3 : Int32) c0 c1 c2) [(.int c0), (.int 0), (.ref b735), (.ref b735)])) rfl rfl (hb hby at_89)
  have N738 := Fr.snoc X738 N0 (by omega : n0 ≤ b735)
  have C739 : CHr Z EL1 s.vm h0 s.vm h738 := C736.trans (CHr.wr W738 (Safe.arv hZ.alike V735 (by decide)) C736.1)
  have sz738 : h735.size ≤ h738.size := Nat.le_of_eq W738.size.symm
  have V738 : Arv Z h738 b735 k735 .char (3 : Int32) [(.int (nar .char c0)), (.int 0), (.int 0)] (.int 0) := Arv.set Ar737 q737 S737 M737 H737 G737 (fits_nar_char _) W738 0 rfl (Nat.le_of_ble_eq_true rfl)
  obtain ⟨cl740, Ar740, q740, S740, M740, H740, G740⟩ := id V738
  have hin740 : ¬ ((1 : Int32) < 0 ∨ cl740.slots.size ≤ ((1 : Int32)).toNatClampNeg) := inb_of S740 ⟨by decide, by decide⟩
  obtain ⟨T741, h741, X741, e741, W741, st741⟩ := stC X738 hx hZ e738 Ar740 (j := (1 : Int32)) hin740 (g := (mkF m 94 (la21 p0 p1 p2 p3 (3 : Int32) c0 c1 c2) [(.int c1), (.int 1), (.ref b735), (.ref b735)])) rfl rfl (hb hby at_94)
  have N741 := Fr.snoc X741 N738 (by omega : n0 ≤ b735)
  have C742 : CHr Z EL1 s.vm h0 s.vm h741 := C739.trans (CHr.wr W741 (Safe.arv hZ.alike V738 (by decide)) C739.1)
  have sz741 : h738.size ≤ h741.size := Nat.le_of_eq W741.size.symm
  have V741 : Arv Z h741 b735 k735 .char (3 : Int32) [(.int (nar .char c0)), (.int (nar .char c1)), (.int 0)] (.int 0) := Arv.set Ar740 q740 S740 M740 H740 G740 (fits_nar_char _) W741 1 rfl (Nat.le_of_ble_eq_true rfl)
  obtain ⟨cl743, Ar743, q743, S743, M743, H743, G743⟩ := id V741
  have hin743 : ¬ ((2 : Int32) < 0 ∨ cl743.slots.size ≤ ((2 : Int32)).toNatClampNeg) := inb_of S743 ⟨by decide, by decide⟩
  obtain ⟨T744, h744, X744, e744, W744, st744⟩ := stC X741 hx hZ e741 Ar743 (j := (2 : Int32)) hin743 (g := (mkF m 99 (la21 p0 p1 p2 p3 (3 : Int32) c0 c1 c2) [(.int c2), (.int 2), (.ref b735), (.ref b735)])) rfl rfl (hb hby at_99)
  have N744 := Fr.snoc X744 N741 (by omega : n0 ≤ b735)
  have C745 : CHr Z EL1 s.vm h0 s.vm h744 := C742.trans (CHr.wr W744 (Safe.arv hZ.alike V741 (by decide)) C742.1)
  have sz744 : h741.size ≤ h744.size := Nat.le_of_eq W744.size.symm
  have V744 : Arv Z h744 b735 k735 .char (3 : Int32) [(.int (nar .char c0)), (.int (nar .char c1)), (.int (nar .char c2))] (.int 0) := Arv.set Ar743 q743 S743 M743 H743 G743 (fits_nar_char _) W744 2 rfl (Nat.le_of_ble_eq_true rfl)
  have V746 : Arv Z h744 b735 k735 .char (3 : Int32) [(.int c0), (.int c1), (.int c2)] (.int 0) := by
   have q := V744
   rw [qc0, qc1, qc2] at q
   exact q
  obtain ⟨T747, h747, X747, e747, E747, A747, D747, U747, st747⟩ := newO X744 hx hZ hown (wd hw 1 rfl) (wd hw 2 rfl) (wd hw 3 rfl) e744 (g := (mkF m 102 (la22 p0 p1 p2 p3 (3 : Int32) c0 c1 c2 b735) [])) rfl (hb hby at_102) (by decide) (by decide)
  obtain ⟨b747, g747⟩ : ∃ z, z = h744.size := ⟨_, rfl⟩
  rw [← g747] at A747 D747 U747 st747
  have C748 : CHr Z EL1 s.vm h0 s.vm h747 := C745.trans (CHr.ext E747 C745.1)
  have sz747 : h744.size ≤ h747.size := E747.1
  have lt747 := ltA A747.lt
  have B747 : Safe Z EL1 s.vm h747 b747 := Safe.ext E747 C745.1 (Safe.new (by omega))
  have f749 : Fld Z h747 b747 kS1 "value" "[B" .null := D747 (Or.inr (wd hw 16 rfl)) (ty := (.array .byte)) (by decide)
  have f750 : Fld Z h747 b747 kS1 "coder" "B" (.int 0) := D747 (Or.inr (wd hw 17 rfl)) (ty := .byte) (by decide)
  have f751 : Arv Z h747 b735 k735 .char (3 : Int32) [(.int c0), (.int c1), (.int c2)] (.int 0) := (V746.ext E747)
  have f752 : Old Z n0 h747 := (((((O0.ext E735).wr W738 (by omega)).wr W741 (by omega)).wr W744 (by omega)).ext E747)
  have S753 : Sta Z h747 kS1 "COMPACT_STRINGS" "Z" (.int z0) := SZc.ext f752.2
  obtain ⟨v754, _, ⟨T754, L754, k754, n754⟩, -, X754, ⟨Lc754, hQ754, l754, y754, z754⟩, st754⟩ := X747.specialBack hx (y := (⟨kS1, "<init>", "([C)V"⟩ : MethodName)) rfl hown (mvT hZ (wd hw 4 rfl)) (mvT hZ (wd hw 5 rfl)) (mvT hZ (wd hw 6 rfl)) (by decide) (StrChars.Road.backV (W := 1) hZ (own_hws hw) (kI := 4) (wd hw 2 rfl) (cs := ([c0, c1, c2] : List Int32)) (bs := ([c0, c1, c2] : List Int32).map (fun c => c.toInt8.toInt32)) (n := 3) (n0 := n0) (by omega) (by omega) A747 f749 f750 f751 S753 hz0 rfl rfl (by decide) (by decide) (own_allS rc0 (own_allS rc1 (own_allS rc2 own_all0))) rfl (by decide) (by decide)) (g := (mkF m 108 (la22 p0 p1 p2 p3 (3 : Int32) c0 c1 c2 b735) [(.ref b735), (.ref b747), (.ref b747)])) rfl (by rw [hml]; rfl) (Steps.refl _) (a := b747) (argsL := [(.ref b735)]) (rest := [(.ref b747)]) (lenOf pd_22 rfl) rfl (wz rfl) (hb hby at_108) (fun _ _ => ⟨rfl, e747, (by decide : 2 + 1 ≤ _), (by decide : 7 + 3 ≤ _)⟩)
  dsimp only [Pt.U, Pt.locs, Pt.cells, Pt.slots] at X754 l754 y754 z754 st754 hQ754
  subst l754 y754 z754
  obtain ⟨h754, e754⟩ : ∃ z, T754.heap = z := ⟨_, rfl⟩
  rw [e754] at hQ754
  obtain ⟨rfl, N754q, K754, A754, Fc754, t754, kb754, u754, lo754, nt754, Fv754, V754⟩ := hQ754
  have N754 := Fr.app N744 N754q
  have C755 : CHr Z EL1 s.vm h0 s.vm h754 := C748.trans (CHr.keep K754 (sfS B747 sf0) C748.1)
  have sz754 : h747.size ≤ h754.size := K754.1
  have lt754 := ltA V754.lt
  have V756 : Arv Z h754 t754 kb754 .byte (3 : Int32) [(.int (c0.toInt8.toInt32)), (.int (c1.toInt8.toInt32)), (.int (c2.toInt8.toInt32))] (.int 0) := V754
  -- pc 115: Seal.line by rm_line3
  have f758 : Old Z n0 h754 := (f752.keep K754 (allS (by omega) all0))
  obtain ⟨_, _, ⟨T757, L757, k757, n757⟩, -, X757w, hS757w, gr757, ⟨Lc757, hQ757, l757, y757, z757, C757w⟩, st757⟩ := callSS X754 hx (y := (⟨"com/example/holdtube/holdtube/Seal", "line", "(Ljava/lang/String;)[B"⟩ : MethodName)) hown (mvT hZ (wd hw 22 rfl)) (mvT hZ (wd hw 23 rfl)) (mvT hZ (wd hw 24 rfl)) (mvT hZ (wd hw 25 rfl)) (by decide) (own_backS (W := 0) (rm_line3 l Z a0 hw [] q0 q1 q2 b747 t754 kb754 (c0.toInt8.toInt32) (c1.toInt8.toInt32) (c2.toInt8.toInt32) z0 h754 n0 (by omega) f758 A754 Fc754 Fv754 V756 (by first | assumption | decide | omega) (by first | assumption | decide | omega) (by first | assumption | decide | omega) bc0 bc1 bc2) hZ (wd hw 25 rfl) (wd hw 24 rfl) (by decide) (by decide) (own_EW hw) C755.1 sf0 all0) (g := (mkF m 115 (la23 p0 p1 p2 p3 (3 : Int32) c0 c1 c2 b735 b747) [(.ref b747)])) rfl (by rw [hml]; rfl) (argsL := [(.ref b747)]) (rest := []) (lenOf pd_23 rfl) rfl (wz rfl) (hb hby at_115) (fun _ _ => ⟨rfl, e754, (by decide : 3 + 7 ≤ _), (by decide : 10 + 40 ≤ _)⟩)
  dsimp only [Pt.U, Pt.locs, Pt.cells, Pt.slots] at X757w hS757w gr757 l757 y757 z757 st757 hQ757 C757w
  subst l757 y757 z757
  obtain ⟨X757, hS757, hZ757, hown757⟩ := rebS hS0 (by rw [e754]; omega) X757w hS757w gr757 hZ hown
  obtain ⟨h757, e757⟩ : ∃ z, T757.heap = z := ⟨_, rfl⟩
  rw [e757] at hQ757
  obtain ⟨t_757, k_757, rfl, N757q, K757, p757_0⟩ := hQ757
  have N757 := Fr.app N754 N757q
  rw [e757] at C757w hS757
  have hk757 : h757.size ≤ h757.size := Nat.le_refl _
  have C759 : CHr Z EL1 s.vm h0 T757.vm h757 := C755.trans (C757w)
  have sz757 : h754.size ≤ h757.size := K757.1
  have lt757_0 := ltA p757_0.lt
  obtain ⟨cl760, Ar760, -, S760, M760, -, -⟩ := id p757_0
  obtain ⟨cl761, Ar761, q761, S761, M761, H761, G761⟩ := id p757_0
  have hin761 : ¬ ((3 : Int32) < 0 ∨ cl761.slots.size ≤ ((3 : Int32)).toNatClampNeg) := inb_of S761 ⟨by decide, by decide⟩
  have hat761 : cl761.slots[((3 : Int32)).toNatClampNeg]? = some (.int 10) := Has.at H761 hin761 rfl
  obtain ⟨cl762, Ar762, q762, S762, M762, H762, G762⟩ := id p757_0
  have hin762 : ¬ ((0 : Int32) < 0 ∨ cl762.slots.size ≤ ((0 : Int32)).toNatClampNeg) := inb_of S762 ⟨by decide, by decide⟩
  have hat762 : cl762.slots[((0 : Int32)).toNatClampNeg]? = some (.int (c0.toInt8.toInt32)) := Has.at H762 hin762 rfl
  obtain ⟨cl763, Ar763, q763, S763, M763, H763, G763⟩ := id p757_0
  have hin763 : ¬ ((1 : Int32) < 0 ∨ cl763.slots.size ≤ ((1 : Int32)).toNatClampNeg) := inb_of S763 ⟨by decide, by decide⟩
  have hat763 : cl763.slots[((1 : Int32)).toNatClampNeg]? = some (.int (c1.toInt8.toInt32)) := Has.at H763 hin763 rfl
  obtain ⟨cl764, Ar764, q764, S764, M764, H764, G764⟩ := id p757_0
  have hin764 : ¬ ((2 : Int32) < 0 ∨ cl764.slots.size ≤ ((2 : Int32)).toNatClampNeg) := inb_of S764 ⟨by decide, by decide⟩
  have hat764 : cl764.slots[((2 : Int32)).toNatClampNeg]? = some (.int (c2.toInt8.toInt32)) := Has.at H764 hin764 rfl
  obtain ⟨fs, hr, hrun, hended, hE⟩ := X757.leaveW hS757 (by rw [e757]; omega) (v := some (.int 1)) (fun h => by rw [Bd.returns] at h; cases h)
  have CE := C759.trans (CHv.at X757 hZ757 (own_EW hw) C759.1)
  refine ⟨_, _, pre672 _ ?_, hrun, hended, _, _, rfl, ?_, ?_, ⟨hE.1, hE.2.1, hE.2.2.1, hE.2.2.2.mono (by decide) (by decide)⟩⟩
  ·show GO p e below s₁ (mkF m 26 (la21 p0 p1 p2 p3 (3 : Int32) c0 c1 c2) []) _
   refine XS.iload X0.here hx rfl (hb hby at_26) rfl ?_
   show GO p e below s₁ (mkF m 28 (la21 p0 p1 p2 p3 (3 : Int32) c0 c1 c2) [(.int 3)]) _
   refine XS.ifYes X0.here hx rfl (pc0 := 28) (pc' := 39) rfl (hb hby at_28) rfl ((if0 _ _).trans (feq ((by decide) : ¬ ((3 : Int32) = (0 : Int32)))).2) (by decide) (by decide) ?_
   show GO p e below s₁ (mkF m 39 (la21 p0 p1 p2 p3 (3 : Int32) c0 c1 c2) []) _
   refine XS.iload X0.here hx rfl (hb hby at_39) rfl ?_
   show GO p e below s₁ (mkF m 41 (la21 p0 p1 p2 p3 (3 : Int32) c0 c1 c2) [(.int 3)]) _
   refine XS.iconst X0.here hx rfl (hb hby at_41) ?_
   show GO p e below s₁ (mkF m 42 (la21 p0 p1 p2 p3 (3 : Int32) c0 c1 c2) [(.int 1), (.int 3)]) _
   refine XS.icmpYes X0.here hx rfl (pc0 := 42) (pc' := 58) rfl (hb hby at_42) rfl (feq ((by decide) : ¬ ((3 : Int32) = (1 : Int32)))).2 (by decide) (by decide) ?_
   show GO p e below s₁ (mkF m 58 (la21 p0 p1 p2 p3 (3 : Int32) c0 c1 c2) []) _
   refine XS.iload X0.here hx rfl (hb hby at_58) rfl ?_
   show GO p e below s₁ (mkF m 60 (la21 p0 p1 p2 p3 (3 : Int32) c0 c1 c2) [(.int 3)]) _
   refine XS.iconst X0.here hx rfl (hb hby at_60) ?_
   show GO p e below s₁ (mkF m 61 (la21 p0 p1 p2 p3 (3 : Int32) c0 c1 c2) [(.int 2), (.int 3)]) _
   refine XS.icmpYes X0.here hx rfl (pc0 := 61) (pc' := 82) rfl (hb hby at_61) rfl (feq ((by decide) : ¬ ((3 : Int32) = (2 : Int32)))).2 (by decide) (by decide) ?_
   show GO p e below s₁ (mkF m 82 (la21 p0 p1 p2 p3 (3 : Int32) c0 c1 c2) []) _
   refine XS.iconst X0.here hx rfl (hb hby at_82) ?_
   show GO p e below s₁ (mkF m 83 (la21 p0 p1 p2 p3 (3 : Int32) c0 c1 c2) [(.int 3)]) _
   refine st735 _ ?_
   show GO p e below T735 (mkF m 85 (la21 p0 p1 p2 p3 (3 : Int32) c0 c1 c2) [(.ref b735)]) _
   refine XS.dup X735.here hx rfl (hb hby at_85) rfl rfl ?_
   show GO p e below T735 (mkF m 86 (la21 p0 p1 p2 p3 (3 : Int32) c0 c1 c2) [(.ref b735), (.ref b735)]) _
   refine XS.iconst X735.here hx rfl (hb hby at_86) ?_
   show GO p e below T735 (mkF m 87 (la21 p0 p1 p2 p3 (3 : Int32) c0 c1 c2) [(.int 0), (.ref b735), (.ref b735)]) _
   refine XS.iload X735.here hx rfl (hb hby at_87) rfl ?_
   show GO p e below T735 (mkF m 89 (la21 p0 p1 p2 p3 (3 : Int32) c0 c1 c2) [(.int c0), (.int 0), (.ref b735), (.ref b735)]) _
   refine st738 _ ?_
   show GO p e below T738 (mkF m 90 (la21 p0 p1 p2 p3 (3 : Int32) c0 c1 c2) [(.ref b735)]) _
   refine XS.dup X738.here hx rfl (hb hby at_90) rfl rfl ?_
   show GO p e below T738 (mkF m 91 (la21 p0 p1 p2 p3 (3 : Int32) c0 c1 c2) [(.ref b735), (.ref b735)]) _
   refine XS.iconst X738.here hx rfl (hb hby at_91) ?_
   show GO p e below T738 (mkF m 92 (la21 p0 p1 p2 p3 (3 : Int32) c0 c1 c2) [(.int 1), (.ref b735), (.ref b735)]) _
   refine XS.iload X738.here hx rfl (hb hby at_92) rfl ?_
   show GO p e below T738 (mkF m 94 (la21 p0 p1 p2 p3 (3 : Int32) c0 c1 c2) [(.int c1), (.int 1), (.ref b735), (.ref b735)]) _
   refine st741 _ ?_
   show GO p e below T741 (mkF m 95 (la21 p0 p1 p2 p3 (3 : Int32) c0 c1 c2) [(.ref b735)]) _
   refine XS.dup X741.here hx rfl (hb hby at_95) rfl rfl ?_
   show GO p e below T741 (mkF m 96 (la21 p0 p1 p2 p3 (3 : Int32) c0 c1 c2) [(.ref b735), (.ref b735)]) _
   refine XS.iconst X741.here hx rfl (hb hby at_96) ?_
   show GO p e below T741 (mkF m 97 (la21 p0 p1 p2 p3 (3 : Int32) c0 c1 c2) [(.int 2), (.ref b735), (.ref b735)]) _
   refine XS.iload X741.here hx rfl (hb hby at_97) rfl ?_
   show GO p e below T741 (mkF m 99 (la21 p0 p1 p2 p3 (3 : Int32) c0 c1 c2) [(.int c2), (.int 2), (.ref b735), (.ref b735)]) _
   refine st744 _ ?_
   show GO p e below T744 (mkF m 100 (la21 p0 p1 p2 p3 (3 : Int32) c0 c1 c2) [(.ref b735)]) _
   refine XS.astore X744.here hx rfl (hb hby at_100) rfl rfl (l' := (la22 p0 p1 p2 p3 (3 : Int32) c0 c1 c2 b735)) rfl ?_
   show GO p e below T744 (mkF m 102 (la22 p0 p1 p2 p3 (3 : Int32) c0 c1 c2 b735) []) _
   refine st747 _ ?_
   show GO p e below T747 (mkF m 105 (la22 p0 p1 p2 p3 (3 : Int32) c0 c1 c2 b735) [(.ref b747)]) _
   refine XS.dup X747.here hx rfl (hb hby at_105) rfl rfl ?_
   show GO p e below T747 (mkF m 106 (la22 p0 p1 p2 p3 (3 : Int32) c0 c1 c2 b735) [(.ref b747), (.ref b747)]) _
   refine XS.aload X747.here hx rfl (hb hby at_106) rfl rfl ?_
   show GO p e below T747 (mkF m 108 (la22 p0 p1 p2 p3 (3 : Int32) c0 c1 c2 b735) [(.ref b735), (.ref b747), (.ref b747)]) _
   refine st754.trans ?_
   show GO p e below T754 (mkF m 111 (la22 p0 p1 p2 p3 (3 : Int32) c0 c1 c2 b735) [(.ref b747)]) _
   refine XS.astore X754.here hx rfl (hb hby at_111) rfl rfl (l' := (la23 p0 p1 p2 p3 (3 : Int32) c0 c1 c2 b735 b747)) rfl ?_
   show GO p e below T754 (mkF m 113 (la23 p0 p1 p2 p3 (3 : Int32) c0 c1 c2 b735 b747) []) _
   refine XS.aload X754.here hx rfl (hb hby at_113) rfl rfl ?_
   show GO p e below T754 (mkF m 115 (la23 p0 p1 p2 p3 (3 : Int32) c0 c1 c2 b735 b747) [(.ref b747)]) _
   refine st757.trans ?_
   show GO p e below T757 (mkF m 118 (la23 p0 p1 p2 p3 (3 : Int32) c0 c1 c2 b735 b747) [(.ref t_757)]) _
   refine XS.astore X757.here hx rfl (hb hby at_118) rfl rfl (l' := (la24 p0 p1 p2 p3 (3 : Int32) c0 c1 c2 b735 b747 t_757)) rfl ?_
   show GO p e below T757 (mkF m 120 (la24 p0 p1 p2 p3 (3 : Int32) c0 c1 c2 b735 b747 t_757) []) _
   refine XS.aload X757.here hx rfl (hb hby at_120) rfl rfl ?_
   show GO p e below T757 (mkF m 122 (la24 p0 p1 p2 p3 (3 : Int32) c0 c1 c2 b735 b747 t_757) [(.ref t_757)]) _
   refine XS.ifnonnullYes X757.here hx rfl (pc0 := 122) (pc' := 127) rfl (hb hby at_122) rfl (by decide) (by decide) ?_
   show GO p e below T757 (mkF m 127 (la24 p0 p1 p2 p3 (3 : Int32) c0 c1 c2 b735 b747 t_757) []) _
   refine XS.aload X757.here hx rfl (hb hby at_127) rfl rfl ?_
   show GO p e below T757 (mkF m 129 (la24 p0 p1 p2 p3 (3 : Int32) c0 c1 c2 b735 b747 t_757) [(.ref t_757)]) _
   refine X757.arraylength hx (by rw [e757]; exact Ar760.1) (State.isArrayOf_alike hZ757.alike Ar760.2.1) (g := (mkF m 129 (la24 p0 p1 p2 p3 (3 : Int32) c0 c1 c2 b735 b747 t_757) [(.ref t_757)])) rfl rfl (hb hby at_129) _ ?_
   rw [len_of S760 M760]
   show GO p e below T757 (mkF m 130 (la24 p0 p1 p2 p3 (3 : Int32) c0 c1 c2 b735 b747 t_757) [(.int 4)]) _
   refine XS.iload X757.here hx rfl (hb hby at_130) rfl ?_
   show GO p e below T757 (mkF m 132 (la24 p0 p1 p2 p3 (3 : Int32) c0 c1 c2 b735 b747 t_757) [(.int 3), (.int 4)]) _
   refine XS.iconst X757.here hx rfl (hb hby at_132) ?_
   show GO p e below T757 (mkF m 133 (la24 p0 p1 p2 p3 (3 : Int32) c0 c1 c2 b735 b747 t_757) [(.int 1), (.int 3), (.int 4)]) _
   refine XS.iadd X757.here hx rfl (hb hby at_133) rfl ?_
   rw [show ((3 : Int32) + (1 : Int32)) = (4 : Int32) from by decide]
   show GO p e below T757 (mkF m 134 (la24 p0 p1 p2 p3 (3 : Int32) c0 c1 c2 b735 b747 t_757) [(.int 4), (.int 4)]) _
   refine XS.icmpYes X757.here hx rfl (pc0 := 134) (pc' := 139) rfl (hb hby at_134) rfl (teq (rfl : (4 : Int32) = (4 : Int32))).1 (by decide) (by decide) ?_
   show GO p e below T757 (mkF m 139 (la24 p0 p1 p2 p3 (3 : Int32) c0 c1 c2 b735 b747 t_757) []) _
   refine XS.aload X757.here hx rfl (hb hby at_139) rfl rfl ?_
   show GO p e below T757 (mkF m 141 (la24 p0 p1 p2 p3 (3 : Int32) c0 c1 c2 b735 b747 t_757) [(.ref t_757)]) _
   refine XS.iload X757.here hx rfl (hb hby at_141) rfl ?_
   show GO p e below T757 (mkF m 143 (la24 p0 p1 p2 p3 (3 : Int32) c0 c1 c2 b735 b747 t_757) [(.int 3), (.ref t_757)]) _
   refine X757.baloadBytes hx (j := (3 : Int32)) (v := (.int 10)) (by rw [e757]; exact Ar761.1) (State.isArrayOf_alike hZ757.alike Ar761.2.1) Ar761.2.2 hin761 hat761 (g := (mkF m 143 (la24 p0 p1 p2 p3 (3 : Int32) c0 c1 c2 b735 b747 t_757) [(.int 3), (.ref t_757)])) rfl rfl (hb hby at_143) _ ?_
   show GO p e below T757 (mkF m 144 (la24 p0 p1 p2 p3 (3 : Int32) c0 c1 c2 b735 b747 t_757) [(.int 10)]) _
   refine XS.bipush X757.here hx rfl (hb hby at_144) ?_
   show GO p e below T757 (mkF m 146 (la24 p0 p1 p2 p3 (3 : Int32) c0 c1 c2 b735 b747 t_757) [(.int 10), (.int 10)]) _
   refine XS.icmpYes X757.here hx rfl (pc0 := 146) (pc' := 151) rfl (hb hby at_146) rfl (teq (rfl : (10 : Int32) = (10 : Int32))).1 (by decide) (by decide) ?_
   show GO p e below T757 (mkF m 151 (la24 p0 p1 p2 p3 (3 : Int32) c0 c1 c2 b735 b747 t_757) []) _
   refine XS.iload X757.here hx rfl (hb hby at_151) rfl ?_
   show GO p e below T757 (mkF m 153 (la24 p0 p1 p2 p3 (3 : Int32) c0 c1 c2 b735 b747 t_757) [(.int 3)]) _
   refine XS.iconst X757.here hx rfl (hb hby at_153) ?_
   show GO p e below T757 (mkF m 154 (la24 p0 p1 p2 p3 (3 : Int32) c0 c1 c2 b735 b747 t_757) [(.int 1), (.int 3)]) _
   refine XS.icmpNo X757.here hx rfl (hb hby at_154) rfl (flt ((by decide) : ¬ ((3 : Int32) < (1 : Int32)))).1 ?_
   show GO p e below T757 (mkF m 157 (la24 p0 p1 p2 p3 (3 : Int32) c0 c1 c2 b735 b747 t_757) []) _
   refine XS.aload X757.here hx rfl (hb hby at_157) rfl rfl ?_
   show GO p e below T757 (mkF m 159 (la24 p0 p1 p2 p3 (3 : Int32) c0 c1 c2 b735 b747 t_757) [(.ref t_757)]) _
   refine XS.iconst X757.here hx rfl (hb hby at_159) ?_
   show GO p e below T757 (mkF m 160 (la24 p0 p1 p2 p3 (3 : Int32) c0 c1 c2 b735 b747 t_757) [(.int 0), (.ref t_757)]) _
   refine X757.baloadBytes hx (j := (0 : Int32)) (v := (.int (c0.toInt8.toInt32))) (by rw [e757]; exact Ar762.1) (State.isArrayOf_alike hZ757.alike Ar762.2.1) Ar762.2.2 hin762 hat762 (g := (mkF m 160 (la24 p0 p1 p2 p3 (3 : Int32) c0 c1 c2 b735 b747 t_757) [(.int 0), (.ref t_757)])) rfl rfl (hb hby at_160) _ ?_
   show GO p e below T757 (mkF m 161 (la24 p0 p1 p2 p3 (3 : Int32) c0 c1 c2 b735 b747 t_757) [(.int (c0.toInt8.toInt32))]) _
   refine XS.iload X757.here hx rfl (hb hby at_161) rfl ?_
   show GO p e below T757 (mkF m 163 (la24 p0 p1 p2 p3 (3 : Int32) c0 c1 c2 b735 b747 t_757) [(.int c0), (.int (c0.toInt8.toInt32))]) _
   refine XS.i2b X757.here hx rfl (hb hby at_163) rfl ?_
   show GO p e below T757 (mkF m 164 (la24 p0 p1 p2 p3 (3 : Int32) c0 c1 c2 b735 b747 t_757) [(.int (c0.toInt8.toInt32)), (.int (c0.toInt8.toInt32))]) _
   refine XS.icmpYes X757.here hx rfl (pc0 := 164) (pc' := 169) rfl (hb hby at_164) rfl (teq (rfl : (c0.toInt8.toInt32) = (c0.toInt8.toInt32))).1 (by decide) (by decide) ?_
   show GO p e below T757 (mkF m 169 (la24 p0 p1 p2 p3 (3 : Int32) c0 c1 c2 b735 b747 t_757) []) _
   refine XS.iload X757.here hx rfl (hb hby at_169) rfl ?_
   show GO p e below T757 (mkF m 171 (la24 p0 p1 p2 p3 (3 : Int32) c0 c1 c2 b735 b747 t_757) [(.int 3)]) _
   refine XS.iconst X757.here hx rfl (hb hby at_171) ?_
   show GO p e below T757 (mkF m 172 (la24 p0 p1 p2 p3 (3 : Int32) c0 c1 c2 b735 b747 t_757) [(.int 2), (.int 3)]) _
   refine XS.icmpNo X757.here hx rfl (hb hby at_172) rfl (flt ((by decide) : ¬ ((3 : Int32) < (2 : Int32)))).1 ?_
   show GO p e below T757 (mkF m 175 (la24 p0 p1 p2 p3 (3 : Int32) c0 c1 c2 b735 b747 t_757) []) _
   refine XS.aload X757.here hx rfl (hb hby at_175) rfl rfl ?_
   show GO p e below T757 (mkF m 177 (la24 p0 p1 p2 p3 (3 : Int32) c0 c1 c2 b735 b747 t_757) [(.ref t_757)]) _
   refine XS.iconst X757.here hx rfl (hb hby at_177) ?_
   show GO p e below T757 (mkF m 178 (la24 p0 p1 p2 p3 (3 : Int32) c0 c1 c2 b735 b747 t_757) [(.int 1), (.ref t_757)]) _
   refine X757.baloadBytes hx (j := (1 : Int32)) (v := (.int (c1.toInt8.toInt32))) (by rw [e757]; exact Ar763.1) (State.isArrayOf_alike hZ757.alike Ar763.2.1) Ar763.2.2 hin763 hat763 (g := (mkF m 178 (la24 p0 p1 p2 p3 (3 : Int32) c0 c1 c2 b735 b747 t_757) [(.int 1), (.ref t_757)])) rfl rfl (hb hby at_178) _ ?_
   show GO p e below T757 (mkF m 179 (la24 p0 p1 p2 p3 (3 : Int32) c0 c1 c2 b735 b747 t_757) [(.int (c1.toInt8.toInt32))]) _
   refine XS.iload X757.here hx rfl (hb hby at_179) rfl ?_
   show GO p e below T757 (mkF m 181 (la24 p0 p1 p2 p3 (3 : Int32) c0 c1 c2 b735 b747 t_757) [(.int c1), (.int (c1.toInt8.toInt32))]) _
   refine XS.i2b X757.here hx rfl (hb hby at_181) rfl ?_
   show GO p e below T757 (mkF m 182 (la24 p0 p1 p2 p3 (3 : Int32) c0 c1 c2 b735 b747 t_757) [(.int (c1.toInt8.toInt32)), (.int (c1.toInt8.toInt32))]) _
   refine XS.icmpYes X757.here hx rfl (pc0 := 182) (pc' := 187) rfl (hb hby at_182) rfl (teq (rfl : (c1.toInt8.toInt32) = (c1.toInt8.toInt32))).1 (by decide) (by decide) ?_
   show GO p e below T757 (mkF m 187 (la24 p0 p1 p2 p3 (3 : Int32) c0 c1 c2 b735 b747 t_757) []) _
   refine XS.iload X757.here hx rfl (hb hby at_187) rfl ?_
   show GO p e below T757 (mkF m 189 (la24 p0 p1 p2 p3 (3 : Int32) c0 c1 c2 b735 b747 t_757) [(.int 3)]) _
   refine XS.iconst X757.here hx rfl (hb hby at_189) ?_
   show GO p e below T757 (mkF m 190 (la24 p0 p1 p2 p3 (3 : Int32) c0 c1 c2 b735 b747 t_757) [(.int 3), (.int 3)]) _
   refine XS.icmpNo X757.here hx rfl (hb hby at_190) rfl (flt ((by decide) : ¬ ((3 : Int32) < (3 : Int32)))).1 ?_
   show GO p e below T757 (mkF m 193 (la24 p0 p1 p2 p3 (3 : Int32) c0 c1 c2 b735 b747 t_757) []) _
   refine XS.aload X757.here hx rfl (hb hby at_193) rfl rfl ?_
   show GO p e below T757 (mkF m 195 (la24 p0 p1 p2 p3 (3 : Int32) c0 c1 c2 b735 b747 t_757) [(.ref t_757)]) _
   refine XS.iconst X757.here hx rfl (hb hby at_195) ?_
   show GO p e below T757 (mkF m 196 (la24 p0 p1 p2 p3 (3 : Int32) c0 c1 c2 b735 b747 t_757) [(.int 2), (.ref t_757)]) _
   refine X757.baloadBytes hx (j := (2 : Int32)) (v := (.int (c2.toInt8.toInt32))) (by rw [e757]; exact Ar764.1) (State.isArrayOf_alike hZ757.alike Ar764.2.1) Ar764.2.2 hin764 hat764 (g := (mkF m 196 (la24 p0 p1 p2 p3 (3 : Int32) c0 c1 c2 b735 b747 t_757) [(.int 2), (.ref t_757)])) rfl rfl (hb hby at_196) _ ?_
   show GO p e below T757 (mkF m 197 (la24 p0 p1 p2 p3 (3 : Int32) c0 c1 c2 b735 b747 t_757) [(.int (c2.toInt8.toInt32))]) _
   refine XS.iload X757.here hx rfl (hb hby at_197) rfl ?_
   show GO p e below T757 (mkF m 199 (la24 p0 p1 p2 p3 (3 : Int32) c0 c1 c2 b735 b747 t_757) [(.int c2), (.int (c2.toInt8.toInt32))]) _
   refine XS.i2b X757.here hx rfl (hb hby at_199) rfl ?_
   show GO p e below T757 (mkF m 200 (la24 p0 p1 p2 p3 (3 : Int32) c0 c1 c2 b735 b747 t_757) [(.int (c2.toInt8.toInt32)), (.int (c2.toInt8.toInt32))]) _
   refine XS.icmpYes X757.here hx rfl (pc0 := 200) (pc' := 205) rfl (hb hby at_200) rfl (teq (rfl : (c2.toInt8.toInt32) = (c2.toInt8.toInt32))).1 (by decide) (by decide) ?_
   show GO p e below T757 (mkF m 205 (la24 p0 p1 p2 p3 (3 : Int32) c0 c1 c2 b735 b747 t_757) []) _
   refine XS.iconst X757.here hx rfl (hb hby at_205) ?_
   show GO p e below T757 (mkF m 206 (la24 p0 p1 p2 p3 (3 : Int32) c0 c1 c2 b735 b747 t_757) [(.int 1)]) _
   exact retN X757 hx (t := .boolean) Bd.returns (by simp) (hb hby at_206) hr
  ·show Qrm0 Z p0 p1 p2 p3 z0 q0 q1 q2 h0 n0 _ T757.heap _
   rw [e757]
   exact ⟨rfl, N757⟩
  ·show CHr Z EL1 s.vm s.heap T757.vm T757.heap
   rw [hh, e757]
   exact CE
theorem comes_1 {Post : Tables → Env → Array Value → State → Outcome → State → Prop} (hpost : ∀ tb e args s v u, (limb_1_1.after args s (.returned v) u = true ∧ limb_1_2.after args s (.returned v) u = true ∧ True) → Jvm.D.FramedW s (.returned v) u (Jvm.fieldLocs frame_1_writes args s ++ Jvm.arrayLocs frame_1_arrays args s ++ Jvm.staticLocs frame_1_statics s) 32 2240 → Post tb e args s (.returned v) u) :
  ArmFor flags0 classFile x code maxLocals ret World_1 tables_1 room_1 Calls_1 rest_1 Pre_1 Post := by
 intro l hfl _ _ p e ha hc hk s m args below hf hA hF happ hP
 obtain ⟨hcalls, hrest, hpre⟩ := hP
 obtain ⟨-, -, -, hnamed, -, -, -, hat⟩ := (Spec.applies_iff hf).mp happ
 obtain ⟨hg, hn⟩ := and_e (Cond.before_iff.mp (show (Jvm.Cond.and given_1 narrow_1).before args s = true from hpre))
 obtain ⟨g0a, g0b⟩ := and_e hg
 obtain ⟨g1a, g1b⟩ := and_e g0b
 obtain ⟨g2a, g2b⟩ := and_e g1b
 obtain ⟨g3a, g3b⟩ := and_e g2b
 obtain ⟨w0, w1, w2, w3, rfl⟩ : ∃ w0 w1 w2 w3 : Value, args = #[w0, w1, w2, w3] := by
  have hs : args.size = 4 := by simpa [Cond.value, given_1] using g0a
  obtain ⟨L⟩ := args
  match L, hs with
  | [w0, w1, w2, w3], _ => exact ⟨w0, w1, w2, w3, rfl⟩
 have hw := fun d (hd : d ∈ tables_1) => atoms_spec (ws := Jvm.Cond.code x code maxLocals ret :: tables_1) hat d (List.mem_cons_of_mem _ hd)
 have hfit : Fit s := fun {y c} hc i hi => by
  obtain ⟨ha, rfl⟩ := Array.getElem?_eq_some_iff.mp hc
  have q := List.all_eq_true.mp ((Array.all_eq_true_iff_forall_mem.mp hF) _ (Array.getElem_mem ha)) i (List.mem_range.mpr hi)
  simpa [Array.getElem?_eq_getElem hi] using q
 obtain ⟨hsets, hown0⟩ := atoms_of _ (rest_1_c_eq ▸ (show rest_1_c.before _ s = true from hrest))
 have hr0 := Cond.before_iff.mp hown0
 obtain ⟨i0, ei0⟩ := is_v g1a
 obtain rfl : w0 = (.int i0) := Option.some.inj ei0
 obtain ⟨i1, ei1⟩ := is_v g2a
 obtain rfl : w1 = (.int i1) := Option.some.inj ei1
 obtain ⟨i2, ei2⟩ := is_v g3a
 obtain rfl : w2 = (.int i2) := Option.some.inj ei2
 obtain ⟨i3, ei3⟩ := is_v g3b
 obtain rfl : w3 = (.int i3) := Option.some.inj ei3
 have n3 := not_v (Cond.before_iff.mp (hsets _ (List.mem_of_getElem? (i := 2) rfl)))
 obtain ⟨z0, ez0⟩ := is_v (Cond.before_iff.mp (hsets _ (List.mem_of_getElem? (i := 1) rfl)))
 have SZ0 : Sta s s.heap kS1 "COMPACT_STRINGS" "Z" (.int z0) := Sta.start ez0 (Or.inl (hsets _ (List.mem_of_getElem? (i := 0) rfl)))
 have hz0 : ¬ (z0 = (0 : Int32)) := gotF (Cond.eq_ints ez0 (Term.int_eval (0))) n3
 have H0 : CHv s EL1 s.vm s.heap := CHv.start (own_EW hw) (fun p hp => hcalls.1 p (own_ELin p hp)) (hsets _ (List.mem_of_getElem? (i := 2) rfl)) (own_wb hw) (own_wi hw)
 obtain ⟨q0, eq0⟩ := exa_v (Cond.before_iff.mp (hsets _ (List.mem_of_getElem? (i := 14) rfl)))
 obtain ⟨q1, eq1⟩ := exa_v (Cond.before_iff.mp (hsets _ (List.mem_of_getElem? (i := 17) rfl)))
 obtain ⟨q2, eq2⟩ := exa_v (Cond.before_iff.mp (hsets _ (List.mem_of_getElem? (i := 20) rfl)))
 obtain ⟨qa, eqa⟩ := exa_v (Cond.before_iff.mp (hsets _ (List.mem_of_getElem? (i := 23) rfl)))
 obtain rfl : q0 = qa := own_eqa (Cond.before_iff.mp (hsets _ (List.mem_of_getElem? (i := 13) rfl))) eq0 eqa
 have XA := Exa.start eq0 (Cond.before_iff.mp (hsets _ (List.mem_of_getElem? (i := 14) rfl)))
 have X8 := Exa.start eq1 (Cond.before_iff.mp (hsets _ (List.mem_of_getElem? (i := 17) rfl)))
 have X1 := Exa.start eq2 (Cond.before_iff.mp (hsets _ (List.mem_of_getElem? (i := 20) rfl)))
 have HC : OwnC s q0 q1 q2 := ⟨Sta.start eq0 (Or.inl (hsets _ (List.mem_of_getElem? (i := 10) rfl))), Sta.start eqa (Or.inl (hsets _ (List.mem_of_getElem? (i := 12) rfl))), Sta.start eq1 (Or.inl (hsets _ (List.mem_of_getElem? (i := 16) rfl))), Sta.start eq2 (Or.inl (hsets _ (List.mem_of_getElem? (i := 19) rfl))), XA.ne X8 (by decide), XA.ne X1 (by decide)⟩
 obtain ⟨n, o, h1, h2, h3, _, L, rfl, ⟨rfl, N⟩, -, hq⟩ := rm0 l s _ hw tables_1 i0 i1 i2 i3 z0 q0 q1 q2 s.heap s.heap.size (Nat.le_refl _) (Old.start s) SZ0 hz0 HC p e ha hc hk s m _ below hf ((Spec.applies_iff_loose hf).mp happ).1 ⟨rfl, State.Warmed39.refl s, rfl, H0, fun _ h => absurd h (List.not_mem_nil)⟩ trivial
 refine ⟨n, _, h1, h2, h3, hpost _ _ _ _ _ _ ⟨Cond.after_iff.mpr rfl, Cond.after_iff.mpr (eq_i res_at (Term.int_eval (1)) rfl), trivial⟩ ⟨hq.1, hq.2.1, hq.2.2.1, (hq.2.2.2.sift fun y hy => Or.inr (N y hy)).mono (by decide) (by decide)⟩⟩
theorem main_1_1 : Claimed_1_1 := comes_1 fun _ _ _ _ _ _ h hF => ⟨h.1, hF⟩
theorem main_1_2 : Claimed_1_2 := comes_1 fun _ _ _ _ _ _ h hF => ⟨h.2.1, hF⟩
end Jvm.Pilot.@@N@@
namespace Jvm.Pilot.@@N@@
open Jvm Jvm.ClassFile Sem Op Lib Jvm.Free Jvm.Stand Jvm.Pilot.@@N@@.Jvm.D
/-! MADE BY PROGRAM (witnessworld.py) out of the Statement's table words and the real class files: 34 classes; the members and pool entries that the words name. The judged class is class 1, her method 1. -/
namespace start1
open Jvm.ClassFile
def u (s : String) : CpInfo := .utf8 (stringToUtf16 s)
/-- a pool by its gaps: so many unusable entries, then the entry; so many at the end -/
def gap : Nat → List CpInfo → List CpInfo
  | 0, r => r
  | n + 1, r => .unusable :: gap n r
def poolList (es : List (Nat × CpInfo)) (last : Nat) : List CpInfo := es.foldr (fun e r => gap e.1 (e.2 :: r)) (gap last [])
def pool (es : List (Nat × CpInfo)) (last : Nat) : Array CpInfo := ⟨poolList es last⟩
def fileOf (pool : Array CpInfo) (this : Nat) (attrs : Array Attribute := #[]) (ms : Array MethodInfo := #[]) (fl : Nat := 33) (sup : Nat := 0) (ifs : Array Nat := #[]) (fds : Array FieldInfo := #[]) : ClassFile where
  minorVersion := 0
  majorVersion := 65
  constantPool := pool
  accessFlags := fl
  thisClass := this
  superClass := sup
  interfaces := ifs
  fields := fds
  methods := ms
  attributes := attrs
def plain (name : String) (sup : Option ClassId) : Class where
  name := name
  kind := .ordinary
  loader := none
  accessFlags := 33
  super := sup
  interfaces := #[]
  cf := none
  fields := #[]
  methods := #[]
  instanceTypes := #[]
  staticTypes := #[]
  resolved := #[]
  callSites := []
  init := .initialized
  statics := none
  mirror := none

def pool0 : Array CpInfo := pool [(5, u "<init>"), (0, u "()V"), (1, .class_ 10), (1, u "java/lang/Object"), (85, u "clone"), (0, u "()Ljava/lang/Object;")] 26

def k0c0 : Code := { maxStack := 0, maxLocals := 1, code := object_method_1_code, exceptionTable := #[], attributes := #[] }
def k0m0 : Method := { name := "<init>", desc := "()V", sig := { parameters := [], returnType := none }, accessFlags := 1, code := some k0c0 }
def k0m1 : Method := { name := "clone", desc := "()Ljava/lang/Object;", sig := { parameters := [], returnType := some (.object "java/lang/Object") }, accessFlags := 260, code := none }
/-- java/lang/Object -/
def k0 : Class := { plain "java/lang/Object" none with
  accessFlags := 33
  interfaces := #[]
  cf := some (fileOf pool0 8 #[] #[{ accessFlags := 1, nameIndex := 5, descriptorIndex := 6, attributes := #[] }, { accessFlags := 260, nameIndex := 96, descriptorIndex := 97, attributes := #[] }] 33 0 #[] #[])
  fields := #[]
  methods := #[k0m0, k0m1]
  instanceTypes := #[]
  staticTypes := #[]
  resolved := Array.replicate 124 none
  statics := none }

def pool1 : Array CpInfo := pool [(2, .class_ 4), (1, u "java/lang/Object"), (0, u "<init>"), (0, u "()V"), (0, .class_ 8), (0, u "java/lang/String"), (0, .methodref 7 10), (0, .nameAndType 5 11), (0, u "([C)V"), (0, .methodref 13 14), (0, .class_ 15), (0, .nameAndType 16 17), (0, u "com/example/holdtube/holdtube/Seal"), (0, u "line"), (0, u "(Ljava/lang/String;)[B"), (0, .class_ 19), (0, u "com/example/holdtube/holdtube/SealLinePinLaw"), (2, u "law"), (0, u "(IIII)Z")] 7

def k1m0 : Method := { name := "<init>", desc := "()V", sig := { parameters := [], returnType := none }, accessFlags := 1, code := none }
def k1c1 : Code := { maxStack := 4, maxLocals := 11, code := code, exceptionTable := #[], attributes := #[] }
def k1m1 : Method := { name := "law", desc := "(IIII)Z", sig := { parameters := [.int, .int, .int, .int], returnType := some .boolean }, accessFlags := 9, code := some k1c1 }
/-- com/example/holdtube/holdtube/SealLinePinLaw -/
def k1 : Class := { plain "com/example/holdtube/holdtube/SealLinePinLaw" (some 0) with
  accessFlags := 49
  interfaces := #[]
  cf := some (fileOf pool1 18 #[] #[{ accessFlags := 1, nameIndex := 5, descriptorIndex := 6, attributes := #[] }, { accessFlags := 9, nameIndex := 22, descriptorIndex := 23, attributes := #[] }] 49 2 #[] #[])
  fields := #[]
  methods := #[k1m0, k1m1]
  instanceTypes := #[]
  staticTypes := #[]
  resolved := Array.replicate 31 none
  statics := none }

def pool2 : Array CpInfo := pool [(1, .class_ 2), (0, u "java/io/Serializable"), (0, .class_ 4), (0, u "java/lang/Object")] 2

/-- java/io/Serializable -/
def k2 : Class := { plain "java/io/Serializable" (some 0) with
  accessFlags := 1537
  interfaces := #[]
  cf := some (fileOf pool2 1 #[] #[] 1537 3 #[] #[])
  fields := #[]
  methods := #[]
  instanceTypes := #[]
  staticTypes := #[]
  resolved := Array.replicate 7 none
  statics := none }

def pool3 : Array CpInfo := pool [(1, .class_ 2), (0, u "java/lang/Comparable"), (0, .class_ 4), (0, u "java/lang/Object")] 7

/-- java/lang/Comparable -/
def k3 : Class := { plain "java/lang/Comparable" (some 0) with
  accessFlags := 1537
  interfaces := #[]
  cf := some (fileOf pool3 1 #[] #[] 1537 3 #[] #[])
  fields := #[]
  methods := #[]
  instanceTypes := #[]
  staticTypes := #[]
  resolved := Array.replicate 12 none
  statics := none }

def pool4 : Array CpInfo := pool [(2, .class_ 4), (1, u "java/lang/CharSequence"), (42, .class_ 48), (0, u "java/lang/CharSequence$1CodePointIterator"), (10, .class_ 60), (0, u "java/lang/CharSequence$1CharIterator"), (5, .class_ 67), (0, u "java/lang/Object")] 63

/-- java/lang/CharSequence -/
def k4 : Class := { plain "java/lang/CharSequence" (some 0) with
  accessFlags := 1537
  interfaces := #[]
  cf := some (fileOf pool4 2 #[.nestMembers #[47, 59]] #[] 1537 66 #[] #[])
  fields := #[]
  methods := #[]
  instanceTypes := #[]
  staticTypes := #[]
  resolved := Array.replicate 131 none
  statics := none }

def pool5 : Array CpInfo := pool [(1, .class_ 2), (0, u "java/lang/constant/Constable"), (0, .class_ 4), (0, u "java/lang/Object")] 6

/-- java/lang/constant/Constable -/
def k5 : Class := { plain "java/lang/constant/Constable" (some 0) with
  accessFlags := 1537
  interfaces := #[]
  cf := some (fileOf pool5 1 #[] #[] 1537 3 #[] #[])
  fields := #[]
  methods := #[]
  instanceTypes := #[]
  staticTypes := #[]
  resolved := Array.replicate 11 none
  statics := none }

def pool6 : Array CpInfo := pool [(1, .class_ 2), (0, u "java/lang/constant/ConstantDesc"), (0, .class_ 4), (0, u "java/lang/Object")] 32

/-- java/lang/constant/ConstantDesc -/
def k6 : Class := { plain "java/lang/constant/ConstantDesc" (some 0) with
  accessFlags := 1537
  interfaces := #[]
  cf := some (fileOf pool6 1 #[] #[] 1537 3 #[] #[])
  fields := #[]
  methods := #[]
  instanceTypes := #[]
  staticTypes := #[]
  resolved := Array.replicate 37 none
  statics := none }

def pool7 : Array CpInfo := pool [(1, .methodref 2 3), (0, .class_ 4), (0, .nameAndType 5 6), (0, u "java/lang/Object"), (0, u "<init>"), (0, u "()V"), (0, .string 8), (0, u ""), (0, .fieldref 10 11), (0, .class_ 12), (0, .nameAndType 13 14), (0, u "java/lang/String"), (0, u "value"), (0, u "[B"), (0, .fieldref 10 16), (0, .nameAndType 17 18), (0, u "coder"), (0, u "B"), (2, u "hash"), (0, u "I"), (2, u "hashIsZero"), (0, u "Z"), (0, .methodref 10 28), (0, .nameAndType 5 29), (0, u "([CIILjava/lang/Void;)V"), (8, .fieldref 10 39), (0, .nameAndType 40 26), (0, u "COMPACT_STRINGS"), (1, .class_ 44), (1, u "java/lang/StringUTF16"), (0, u "compress"), (1, .methodref 42 48), (0, .nameAndType 49 50), (0, u "coderFromArrayLen"), (0, u "([BI)B"), (3, .methodref 55 56), (0, .class_ 57), (0, .nameAndType 58 59), (0, u "java/util/Arrays"), (0, u "copyOfRange"), (0, u "([BII)[B"), (26, .fieldref 87 88), (0, .class_ 89), (0, .nameAndType 90 91), (0, u "sun/nio/cs/UTF_8"), (0, u "INSTANCE"), (0, u "Lsun/nio/cs/UTF_8;"), (0, .methodref 93 94), (0, .class_ 95), (0, .nameAndType 96 97), (0, u "java/lang/StringCoding"), (0, u "countPositives"), (0, u "([BII)I"), (18, .fieldref 117 118), (0, .class_ 119), (0, .nameAndType 90 120), (0, u "sun/nio/cs/ISO_8859_1"), (0, u "Lsun/nio/cs/ISO_8859_1;"), (2, .fieldref 124 125), (0, .class_ 126), (0, .nameAndType 90 127), (0, u "sun/nio/cs/US_ASCII"), (0, u "Lsun/nio/cs/US_ASCII;"), (14, u "()Z"), (34, .methodref 42 178), (0, .nameAndType 45 179), (0, u "([CII)[B"), (13, .class_ 195), (1, u "java/lang/System"), (16, .methodref 193 213), (0, .nameAndType 214 215), (0, u "arraycopy"), (0, u "(Ljava/lang/Object;ILjava/lang/Object;II)V"), (43, u "(B[B)[B"), (0, .methodref 10 261), (0, .nameAndType 262 259), (0, u "encodeASCII"), (16, .methodref 280 281), (0, .class_ 14), (0, .nameAndType 282 283), (0, u "clone"), (0, u "()Ljava/lang/Object;"), (33, u "encode"), (16, u "()I"), (0, .methodref 10 336), (0, .nameAndType 17 337), (0, u "()B"), (2, u "()[B"), (148, .methodref 10 490), (0, .nameAndType 5 491), (0, u "(Ljava/lang/AbstractStringBuilder;Ljava/lang/Void;)V"), (1, .nameAndType 494 142), (0, u "isLatin1"), (11, .nameAndType 507 334), (0, u "length"), (24, u "getBytes"), (2, .methodref 10 536), (0, .nameAndType 317 537), (0, u "(Ljava/nio/charset/Charset;B[B)[B"), (11, .methodref 550 506), (0, .class_ 551), (0, u "java/lang/AbstractStringBuilder"), (0, .methodref 550 553), (0, .nameAndType 554 340), (0, u "getValue"), (20, .class_ 576), (0, u "java/lang/CharSequence"), (22, u "CASE_INSENSITIVE_ORDER"), (0, u "Ljava/util/Comparator;"), (220, u "([BIB)V"), (188, u "([C)V"), (36, .methodref 550 493), (53, u "serialPersistentFields"), (0, u "[Ljava/io/ObjectStreamField;"), (0, .class_ 1104), (0, u "java/lang/String$CaseInsensitiveComparator"), (1, .class_ 1107), (0, u "java/io/Serializable"), (0, .class_ 1109), (0, u "java/lang/Comparable"), (0, .class_ 1111), (0, u "java/lang/constant/Constable"), (0, .class_ 1113), (0, u "java/lang/constant/ConstantDesc"), (2, u "serialVersionUID"), (0, u "J"), (3, u "REPL"), (0, u "C"), (2, u "LATIN1"), (1, u "UTF16"), (105, u "(Ljava/lang/StringBuilder;)V"), (11, u "(Ljava/nio/charset/Charset;)[B")] 205

def k7m0 : Method := { name := "<init>", desc := "()V", sig := { parameters := [], returnType := none }, accessFlags := 1, code := none }
def k7c1 : Code := { maxStack := 5, maxLocals := 2, code := jdk_42_method_3_code, exceptionTable := #[], attributes := #[] }
def k7m1 : Method := { name := "<init>", desc := "([C)V", sig := { parameters := [(.array .char)], returnType := none }, accessFlags := 1, code := some k7c1 }
def k7c2 : Code := { maxStack := 4, maxLocals := 3, code := jdk_42_method_18_code, exceptionTable := #[], attributes := #[] }
def k7m2 : Method := { name := "encode", desc := "(Ljava/nio/charset/Charset;B[B)[B", sig := { parameters := [(.object "java/nio/charset/Charset"), .byte, (.array .byte)], returnType := some (.array .byte) }, accessFlags := 10, code := some k7c2 }
def k7c3 : Code := { maxStack := 3, maxLocals := 7, code := jdk_42_method_24_code, exceptionTable := #[], attributes := #[] }
def k7m3 : Method := { name := "encodeASCII", desc := "(B[B)[B", sig := { parameters := [.byte, (.array .byte)], returnType := some (.array .byte) }, accessFlags := 10, code := some k7c3 }
def k7c4 : Code := { maxStack := 3, maxLocals := 2, code := jdk_42_method_53_code, exceptionTable := #[], attributes := #[] }
def k7m4 : Method := { name := "<init>", desc := "(Ljava/lang/StringBuilder;)V", sig := { parameters := [(.object "java/lang/StringBuilder")], returnType := none }, accessFlags := 1, code := some k7c4 }
def k7c5 : Code := { maxStack := 2, maxLocals := 1, code := jdk_42_method_54_code, exceptionTable := #[], attributes := #[] }
def k7m5 : Method := { name := "length", desc := "()I", sig := { parameters := [], returnType := some .int }, accessFlags := 1, code := some k7c5 }
def k7c6 : Code := { maxStack := 3, maxLocals := 2, code := jdk_42_method_64_code, exceptionTable := #[], attributes := #[] }
def k7m6 : Method := { name := "getBytes", desc := "(Ljava/nio/charset/Charset;)[B", sig := { parameters := [(.object "java/nio/charset/Charset")], returnType := some (.array .byte) }, accessFlags := 1, code := some k7c6 }
def k7c7 : Code := { maxStack := 5, maxLocals := 4, code := jdk_42_method_147_code, exceptionTable := #[], attributes := #[] }
def k7m7 : Method := { name := "getBytes", desc := "([BIB)V", sig := { parameters := [(.array .byte), .int, .byte], returnType := none }, accessFlags := 0, code := some k7c7 }
def k7c8 : Code := { maxStack := 4, maxLocals := 6, code := jdk_42_method_149_code, exceptionTable := #[], attributes := #[] }
def k7m8 : Method := { name := "<init>", desc := "([CIILjava/lang/Void;)V", sig := { parameters := [(.array .char), .int, .int, (.object "java/lang/Void")], returnType := none }, accessFlags := 2, code := some k7c8 }
def k7c9 : Code := { maxStack := 5, maxLocals := 5, code := jdk_42_method_150_code, exceptionTable := #[], attributes := #[] }
def k7m9 : Method := { name := "<init>", desc := "(Ljava/lang/AbstractStringBuilder;Ljava/lang/Void;)V", sig := { parameters := [(.object "java/lang/AbstractStringBuilder"), (.object "java/lang/Void")], returnType := none }, accessFlags := 0, code := some k7c9 }
def k7c10 : Code := { maxStack := 1, maxLocals := 1, code := jdk_42_method_152_code, exceptionTable := #[], attributes := #[] }
def k7m10 : Method := { name := "coder", desc := "()B", sig := { parameters := [], returnType := some .byte }, accessFlags := 0, code := some k7c10 }
/-- java/lang/String -/
def k7 : Class := { plain "java/lang/String" (some 0) with
  accessFlags := 49
  interfaces := #[2, 3, 4, 5, 6]
  cf := some (fileOf pool7 10 #[.nestMembers #[1103]] #[{ accessFlags := 1, nameIndex := 5, descriptorIndex := 6, attributes := #[] }, { accessFlags := 1, nameIndex := 5, descriptorIndex := 1010, attributes := #[] }, { accessFlags := 10, nameIndex := 317, descriptorIndex := 537, attributes := #[] }, { accessFlags := 10, nameIndex := 262, descriptorIndex := 259, attributes := #[] }, { accessFlags := 1, nameIndex := 5, descriptorIndex := 1233, attributes := #[] }, { accessFlags := 1, nameIndex := 507, descriptorIndex := 334, attributes := #[] }, { accessFlags := 1, nameIndex := 532, descriptorIndex := 1245, attributes := #[] }, { accessFlags := 0, nameIndex := 532, descriptorIndex := 821, attributes := #[] }, { accessFlags := 2, nameIndex := 5, descriptorIndex := 29, attributes := #[] }, { accessFlags := 0, nameIndex := 5, descriptorIndex := 491, attributes := #[] }, { accessFlags := 0, nameIndex := 17, descriptorIndex := 337, attributes := #[] }] 49 2 #[1106, 1108, 575, 1110, 1112] #[{ accessFlags := 18, nameIndex := 13, descriptorIndex := 14, attributes := #[] }, { accessFlags := 18, nameIndex := 17, descriptorIndex := 18, attributes := #[] }, { accessFlags := 2, nameIndex := 21, descriptorIndex := 22, attributes := #[] }, { accessFlags := 2, nameIndex := 25, descriptorIndex := 26, attributes := #[] }, { accessFlags := 26, nameIndex := 1116, descriptorIndex := 1117, attributes := #[] }, { accessFlags := 24, nameIndex := 40, descriptorIndex := 26, attributes := #[] }, { accessFlags := 26, nameIndex := 1101, descriptorIndex := 1102, attributes := #[] }, { accessFlags := 26, nameIndex := 1121, descriptorIndex := 1122, attributes := #[] }, { accessFlags := 25, nameIndex := 599, descriptorIndex := 600, attributes := #[] }, { accessFlags := 24, nameIndex := 1125, descriptorIndex := 18, attributes := #[] }, { accessFlags := 24, nameIndex := 1127, descriptorIndex := 18, attributes := #[] }])
  fields := #[{ name := "value", type := (.array .byte), accessFlags := 18, slot := 0, constantValue := 0 }, { name := "coder", type := .byte, accessFlags := 18, slot := 1, constantValue := 0 }, { name := "hash", type := .int, accessFlags := 2, slot := 2, constantValue := 0 }, { name := "hashIsZero", type := .boolean, accessFlags := 2, slot := 3, constantValue := 0 }, { name := "serialVersionUID", type := .long, accessFlags := 26, slot := 0, constantValue := 0 }, { name := "COMPACT_STRINGS", type := .boolean, accessFlags := 24, slot := 1, constantValue := 0 }, { name := "serialPersistentFields", type := (.array (.object "java/io/ObjectStreamField")), accessFlags := 26, slot := 2, constantValue := 0 }, { name := "REPL", type := .char, accessFlags := 26, slot := 3, constantValue := 0 }, { name := "CASE_INSENSITIVE_ORDER", type := (.object "java/util/Comparator"), accessFlags := 25, slot := 4, constantValue := 0 }, { name := "LATIN1", type := .byte, accessFlags := 24, slot := 5, constantValue := 0 }, { name := "UTF16", type := .byte, accessFlags := 24, slot := 6, constantValue := 0 }]
  methods := #[k7m0, k7m1, k7m2, k7m3, k7m4, k7m5, k7m6, k7m7, k7m8, k7m9, k7m10]
  instanceTypes := #[(.array .byte), .byte, .int, .boolean]
  staticTypes := #[.long, .boolean, (.array (.object "java/io/ObjectStreamField")), .char, (.object "java/util/Comparator"), .byte, .byte]
  resolved := Array.replicate 1451 none
  statics := some 0 }

def pool8 : Array CpInfo := pool [(2, .class_ 4), (0, .nameAndType 5 6), (0, u "java/lang/Object"), (0, u "<init>"), (0, u "()V"), (18, .class_ 27), (1, u "com/example/holdtube/holdtube/Seal"), (0, u "HEX"), (0, u "Ljava/util/HexFormat;"), (18, .class_ 49), (0, u "java/lang/StringBuilder"), (0, .methodref 48 3), (0, .methodref 48 52), (0, .nameAndType 53 54), (0, u "append"), (0, u "(Ljava/lang/String;)Ljava/lang/StringBuilder;"), (0, .string 56), (0, u "\n"), (0, .methodref 48 58), (0, .nameAndType 59 60), (0, u "toString"), (0, u "()Ljava/lang/String;"), (0, .fieldref 62 63), (0, .class_ 64), (0, .nameAndType 65 66), (0, u "java/nio/charset/StandardCharsets"), (0, u "US_ASCII"), (0, u "Ljava/nio/charset/Charset;"), (0, .methodref 68 69), (0, .class_ 70), (0, .nameAndType 71 72), (0, u "java/lang/String"), (0, u "getBytes"), (0, u "(Ljava/nio/charset/Charset;)[B"), (2, u "FORM"), (0, u "Ljava/util/regex/Pattern;"), (22, u "LINE_BYTES"), (0, u "I"), (7, u "line"), (0, u "(Ljava/lang/String;)[B")] 5

def k8m0 : Method := { name := "<init>", desc := "()V", sig := { parameters := [], returnType := none }, accessFlags := 2, code := none }
def k8c1 : Code := { maxStack := 2, maxLocals := 1, code := prog_22_method_4_code, exceptionTable := #[], attributes := #[] }
def k8m1 : Method := { name := "line", desc := "(Ljava/lang/String;)[B", sig := { parameters := [(.object "java/lang/String")], returnType := some (.array .byte) }, accessFlags := 8, code := some k8c1 }
/-- com/example/holdtube/holdtube/Seal -/
def k8 : Class := { plain "com/example/holdtube/holdtube/Seal" (some 0) with
  accessFlags := 48
  interfaces := #[]
  cf := some (fileOf pool8 25 #[] #[{ accessFlags := 2, nameIndex := 5, descriptorIndex := 6, attributes := #[] }, { accessFlags := 8, nameIndex := 108, descriptorIndex := 109, attributes := #[] }] 48 2 #[] #[{ accessFlags := 24, nameIndex := 99, descriptorIndex := 100, attributes := #[] }, { accessFlags := 26, nameIndex := 75, descriptorIndex := 76, attributes := #[] }, { accessFlags := 26, nameIndex := 28, descriptorIndex := 29, attributes := #[] }])
  fields := #[{ name := "LINE_BYTES", type := .int, accessFlags := 24, slot := 0, constantValue := 0 }, { name := "FORM", type := (.object "java/util/regex/Pattern"), accessFlags := 26, slot := 1, constantValue := 0 }, { name := "HEX", type := (.object "java/util/HexFormat"), accessFlags := 26, slot := 2, constantValue := 0 }]
  methods := #[k8m0, k8m1]
  instanceTypes := #[]
  staticTypes := #[.int, (.object "java/util/regex/Pattern"), (.object "java/util/HexFormat")]
  resolved := Array.replicate 115 none
  statics := none }

def pool9 : Array CpInfo := pool [(1, .class_ 2), (0, u "java/lang/Appendable"), (0, .class_ 4), (0, u "java/lang/Object")] 9

/-- java/lang/Appendable -/
def k9 : Class := { plain "java/lang/Appendable" (some 0) with
  accessFlags := 1537
  interfaces := #[]
  cf := some (fileOf pool9 1 #[] #[] 1537 3 #[] #[])
  fields := #[]
  methods := #[]
  instanceTypes := #[]
  staticTypes := #[]
  resolved := Array.replicate 14 none
  statics := none }

def pool10 : Array CpInfo := pool [(1, .class_ 2), (0, u "java/lang/String"), (0, .methodref 4 5), (0, .class_ 6), (0, .nameAndType 7 8), (0, u "java/lang/Object"), (0, u "<init>"), (0, u "()V"), (1, .class_ 12), (1, u "java/lang/AbstractStringBuilder"), (0, u "EMPTYVALUE"), (0, u "[B"), (0, .fieldref 10 16), (0, .nameAndType 17 14), (0, u "value"), (0, .fieldref 1 19), (0, .nameAndType 20 21), (0, u "COMPACT_STRINGS"), (0, u "Z"), (0, .fieldref 10 23), (0, .nameAndType 24 25), (0, u "coder"), (0, u "B"), (6, .methodref 1 33), (0, .nameAndType 34 35), (0, u "length"), (0, u "()I"), (4, .methodref 1 41), (0, .nameAndType 24 42), (0, u "()B"), (2, u "append"), (0, u "(Ljava/lang/String;)Ljava/lang/AbstractStringBuilder;"), (1, .class_ 49), (0, u "java/lang/CharSequence"), (19, u "(Ljava/lang/String;)V"), (5, u "maybeLatin1"), (3, .fieldref 10 80), (0, .nameAndType 81 82), (0, u "count"), (0, u "I"), (2, u "isLatin1"), (0, u "()Z"), (13, .methodref 10 101), (0, .nameAndType 102 103), (0, u "ensureCapacityInternal"), (0, u "(I)V"), (104, .methodref 10 209), (0, .nameAndType 210 211), (0, u "putStringAt"), (0, u "(ILjava/lang/String;)V"), (5, u "inflateIfNeededFor"), (2, .nameAndType 221 222), (0, u "getBytes"), (0, u "([BIB)V"), (174, .methodref 10 398), (0, .nameAndType 217 69), (0, .methodref 1 220), (3, u "()[B"), (40, .class_ 445), (0, u "java/lang/Appendable"), (106, u "getValue")] 56

def k10m0 : Method := { name := "<init>", desc := "()V", sig := { parameters := [], returnType := none }, accessFlags := 0, code := none }
def k10c1 : Code := { maxStack := 2, maxLocals := 2, code := jdk_68_method_2_code, exceptionTable := #[], attributes := #[] }
def k10m1 : Method := { name := "<init>", desc := "(I)V", sig := { parameters := [.int], returnType := none }, accessFlags := 0, code := some k10c1 }
def k10c2 : Code := { maxStack := 1, maxLocals := 1, code := jdk_68_method_6_code, exceptionTable := #[], attributes := #[] }
def k10m2 : Method := { name := "length", desc := "()I", sig := { parameters := [], returnType := some .int }, accessFlags := 1, code := some k10c2 }
def k10c3 : Code := { maxStack := 4, maxLocals := 3, code := jdk_68_method_9_code, exceptionTable := #[], attributes := #[] }
def k10m3 : Method := { name := "ensureCapacityInternal", desc := "(I)V", sig := { parameters := [.int], returnType := none }, accessFlags := 2, code := some k10c3 }
def k10c4 : Code := { maxStack := 3, maxLocals := 3, code := jdk_68_method_22_code, exceptionTable := #[], attributes := #[] }
def k10m4 : Method := { name := "append", desc := "(Ljava/lang/String;)Ljava/lang/AbstractStringBuilder;", sig := { parameters := [(.object "java/lang/String")], returnType := some (.object "java/lang/AbstractStringBuilder") }, accessFlags := 1, code := some k10c4 }
def k10c5 : Code := { maxStack := 1, maxLocals := 1, code := jdk_68_method_64_code, exceptionTable := #[], attributes := #[] }
def k10m5 : Method := { name := "getValue", desc := "()[B", sig := { parameters := [], returnType := some (.array .byte) }, accessFlags := 16, code := some k10c5 }
def k10c6 : Code := { maxStack := 1, maxLocals := 1, code := jdk_68_method_68_code, exceptionTable := #[], attributes := #[] }
def k10m6 : Method := { name := "isLatin1", desc := "()Z", sig := { parameters := [], returnType := some .boolean }, accessFlags := 16, code := some k10c6 }
def k10c7 : Code := { maxStack := 2, maxLocals := 2, code := jdk_68_method_71_code, exceptionTable := #[], attributes := #[] }
def k10m7 : Method := { name := "inflateIfNeededFor", desc := "(Ljava/lang/String;)V", sig := { parameters := [(.object "java/lang/String")], returnType := none }, accessFlags := 2, code := some k10c7 }
def k10c8 : Code := { maxStack := 4, maxLocals := 3, code := jdk_68_method_73_code, exceptionTable := #[], attributes := #[] }
def k10m8 : Method := { name := "putStringAt", desc := "(ILjava/lang/String;)V", sig := { parameters := [.int, (.object "java/lang/String")], returnType := none }, accessFlags := 2, code := some k10c8 }
/-- java/lang/AbstractStringBuilder -/
def k10 : Class := { plain "java/lang/AbstractStringBuilder" (some 0) with
  accessFlags := 1056
  interfaces := #[9, 4]
  cf := some (fileOf pool10 10 #[] #[{ accessFlags := 0, nameIndex := 7, descriptorIndex := 8, attributes := #[] }, { accessFlags := 0, nameIndex := 7, descriptorIndex := 103, attributes := #[] }, { accessFlags := 1, nameIndex := 34, descriptorIndex := 35, attributes := #[] }, { accessFlags := 2, nameIndex := 102, descriptorIndex := 103, attributes := #[] }, { accessFlags := 1, nameIndex := 45, descriptorIndex := 46, attributes := #[] }, { accessFlags := 16, nameIndex := 552, descriptorIndex := 403, attributes := #[] }, { accessFlags := 16, nameIndex := 85, descriptorIndex := 86, attributes := #[] }, { accessFlags := 2, nameIndex := 217, descriptorIndex := 69, attributes := #[] }, { accessFlags := 2, nameIndex := 210, descriptorIndex := 211, attributes := #[] }] 1056 4 #[444, 48] #[{ accessFlags := 0, nameIndex := 17, descriptorIndex := 14, attributes := #[] }, { accessFlags := 0, nameIndex := 24, descriptorIndex := 25, attributes := #[] }, { accessFlags := 0, nameIndex := 75, descriptorIndex := 21, attributes := #[] }, { accessFlags := 0, nameIndex := 81, descriptorIndex := 82, attributes := #[] }, { accessFlags := 26, nameIndex := 13, descriptorIndex := 14, attributes := #[] }])
  fields := #[{ name := "value", type := (.array .byte), accessFlags := 0, slot := 0, constantValue := 0 }, { name := "coder", type := .byte, accessFlags := 0, slot := 1, constantValue := 0 }, { name := "maybeLatin1", type := .boolean, accessFlags := 0, slot := 2, constantValue := 0 }, { name := "count", type := .int, accessFlags := 0, slot := 3, constantValue := 0 }, { name := "EMPTYVALUE", type := (.array .byte), accessFlags := 26, slot := 0, constantValue := 0 }]
  methods := #[k10m0, k10m1, k10m2, k10m3, k10m4, k10m5, k10m6, k10m7, k10m8]
  instanceTypes := #[(.array .byte), .byte, .boolean, .int]
  staticTypes := #[(.array .byte)]
  resolved := Array.replicate 609 none
  statics := none }

def pool11 : Array CpInfo := pool [(1, .methodref 2 3), (0, .class_ 4), (0, .nameAndType 5 6), (0, u "java/lang/AbstractStringBuilder"), (0, u "<init>"), (0, u "(I)V"), (11, .class_ 20), (1, u "java/lang/String"), (3, .class_ 26), (1, u "java/lang/StringBuilder"), (0, u "append"), (0, u "(Ljava/lang/String;)Ljava/lang/StringBuilder;"), (0, .methodref 2 30), (0, .nameAndType 27 31), (0, u "(Ljava/lang/String;)Ljava/lang/AbstractStringBuilder;"), (105, .methodref 18 138), (0, .nameAndType 5 139), (0, u "(Ljava/lang/StringBuilder;)V"), (5, u "()V"), (10, u "()I"), (186, .methodref 2 344), (0, .nameAndType 345 156), (0, u "length"), (3, .class_ 350), (0, u "java/lang/Appendable"), (0, .class_ 352), (0, u "java/io/Serializable"), (0, .class_ 354), (0, u "java/lang/Comparable"), (0, .class_ 356), (0, u "java/lang/CharSequence"), (0, u "serialVersionUID"), (0, u "J"), (40, u "toString"), (0, u "()Ljava/lang/String;")] 21

def k11c0 : Code := { maxStack := 2, maxLocals := 1, code := jdk_67_method_1_code, exceptionTable := #[], attributes := #[] }
def k11m0 : Method := { name := "<init>", desc := "()V", sig := { parameters := [], returnType := none }, accessFlags := 1, code := some k11c0 }
def k11c1 : Code := { maxStack := 2, maxLocals := 2, code := jdk_67_method_7_code, exceptionTable := #[], attributes := #[] }
def k11m1 : Method := { name := "append", desc := "(Ljava/lang/String;)Ljava/lang/StringBuilder;", sig := { parameters := [(.object "java/lang/String")], returnType := some (.object "java/lang/StringBuilder") }, accessFlags := 1, code := some k11c1 }
def k11c2 : Code := { maxStack := 3, maxLocals := 1, code := jdk_67_method_42_code, exceptionTable := #[], attributes := #[] }
def k11m2 : Method := { name := "toString", desc := "()Ljava/lang/String;", sig := { parameters := [], returnType := some (.object "java/lang/String") }, accessFlags := 1, code := some k11c2 }
def k11c3 : Code := { maxStack := 1, maxLocals := 1, code := jdk_67_method_93_code, exceptionTable := #[], attributes := #[] }
def k11m3 : Method := { name := "length", desc := "()I", sig := { parameters := [], returnType := some .int }, accessFlags := 4161, code := some k11c3 }
/-- java/lang/StringBuilder -/
def k11 : Class := { plain "java/lang/StringBuilder" (some 10) with
  accessFlags := 49
  interfaces := #[9, 2, 3, 4]
  cf := some (fileOf pool11 24 #[] #[{ accessFlags := 1, nameIndex := 5, descriptorIndex := 145, attributes := #[] }, { accessFlags := 1, nameIndex := 27, descriptorIndex := 28, attributes := #[] }, { accessFlags := 1, nameIndex := 399, descriptorIndex := 400, attributes := #[] }, { accessFlags := 4161, nameIndex := 345, descriptorIndex := 156, attributes := #[] }] 49 2 #[349, 351, 353, 355] #[{ accessFlags := 24, nameIndex := 357, descriptorIndex := 358, attributes := #[] }])
  fields := #[{ name := "serialVersionUID", type := .long, accessFlags := 24, slot := 0, constantValue := 0 }]
  methods := #[k11m0, k11m1, k11m2, k11m3]
  instanceTypes := #[(.array .byte), .byte, .boolean, .int]
  staticTypes := #[.long]
  resolved := Array.replicate 422 none
  statics := none }

def pool12 : Array CpInfo := pool [(2, .class_ 4), (1, u "java/lang/Object"), (0, u "<init>"), (0, u "()V"), (1, .class_ 10), (1, u "java/lang/System"), (0, u "allowSecurityManager"), (0, u "I"), (16, u "cons"), (0, u "Ljava/io/Console;"), (77, .class_ 110), (1, u "java/lang/System$CallersHolder"), (43, u "initialErrStream"), (0, u "Ljava/io/PrintStream;"), (19, u "security"), (0, u "Ljava/lang/SecurityManager;"), (31, .class_ 209), (0, u "java/lang/System$1"), (7, u "props"), (0, u "Ljava/util/Properties;"), (2, u "lineSeparator"), (0, u "Ljava/lang/String;"), (96, .class_ 321), (1, u "java/lang/System$LoggerFinder"), (5, .class_ 328), (0, u "java/lang/System$Logger"), (67, u "err"), (2, u "out"), (91, u "notSupportedJnuEncoding"), (15, u "in"), (17, u "initialIn"), (0, u "Ljava/io/InputStream;"), (35, u "bootLayer"), (0, u "Ljava/lang/ModuleLayer;"), (99, .class_ 664), (0, u "java/lang/System$2"), (9, u "NEVER"), (2, u "MAYBE"), (49, u "arraycopy"), (0, u "(Ljava/lang/Object;ILjava/lang/Object;II)V"), (72, .class_ 802), (0, u "java/lang/System$Logger$Level")] 31

def k12m0 : Method := { name := "<init>", desc := "()V", sig := { parameters := [], returnType := none }, accessFlags := 2, code := none }
def k12m1 : Method := { name := "arraycopy", desc := "(Ljava/lang/Object;ILjava/lang/Object;II)V", sig := { parameters := [(.object "java/lang/Object"), .int, (.object "java/lang/Object"), .int, .int], returnType := none }, accessFlags := 265, code := none }
/-- java/lang/System -/
def k12 : Class := { plain "java/lang/System" (some 0) with
  accessFlags := 49
  interfaces := #[]
  cf := some (fileOf pool12 8 #[.nestMembers #[319, 327, 801, 108, 663, 208]] #[{ accessFlags := 2, nameIndex := 5, descriptorIndex := 6, attributes := #[] }, { accessFlags := 265, nameIndex := 727, descriptorIndex := 728, attributes := #[] }] 49 2 #[] #[{ accessFlags := 25, nameIndex := 507, descriptorIndex := 526, attributes := #[] }, { accessFlags := 25, nameIndex := 399, descriptorIndex := 155, attributes := #[] }, { accessFlags := 25, nameIndex := 396, descriptorIndex := 155, attributes := #[] }, { accessFlags := 10, nameIndex := 525, descriptorIndex := 526, attributes := #[] }, { accessFlags := 26, nameIndex := 674, descriptorIndex := 12, attributes := #[] }, { accessFlags := 26, nameIndex := 677, descriptorIndex := 12, attributes := #[] }, { accessFlags := 10, nameIndex := 11, descriptorIndex := 12, attributes := #[] }, { accessFlags := 74, nameIndex := 175, descriptorIndex := 176, attributes := #[] }, { accessFlags := 10, nameIndex := 491, descriptorIndex := 222, attributes := #[] }, { accessFlags := 74, nameIndex := 29, descriptorIndex := 30, attributes := #[] }, { accessFlags := 74, nameIndex := 154, descriptorIndex := 155, attributes := #[] }, { accessFlags := 10, nameIndex := 217, descriptorIndex := 218, attributes := #[] }, { accessFlags := 10, nameIndex := 221, descriptorIndex := 222, attributes := #[] }, { accessFlags := 8, nameIndex := 562, descriptorIndex := 563, attributes := #[] }])
  fields := #[{ name := "in", type := (.object "java/io/InputStream"), accessFlags := 25, slot := 0, constantValue := 0 }, { name := "out", type := (.object "java/io/PrintStream"), accessFlags := 25, slot := 1, constantValue := 0 }, { name := "err", type := (.object "java/io/PrintStream"), accessFlags := 25, slot := 2, constantValue := 0 }, { name := "initialIn", type := (.object "java/io/InputStream"), accessFlags := 10, slot := 3, constantValue := 0 }, { name := "NEVER", type := .int, accessFlags := 26, slot := 4, constantValue := 0 }, { name := "MAYBE", type := .int, accessFlags := 26, slot := 5, constantValue := 0 }, { name := "allowSecurityManager", type := .int, accessFlags := 10, slot := 6, constantValue := 0 }, { name := "security", type := (.object "java/lang/SecurityManager"), accessFlags := 74, slot := 7, constantValue := 0 }, { name := "notSupportedJnuEncoding", type := (.object "java/lang/String"), accessFlags := 10, slot := 8, constantValue := 0 }, { name := "cons", type := (.object "java/io/Console"), accessFlags := 74, slot := 9, constantValue := 0 }, { name := "initialErrStream", type := (.object "java/io/PrintStream"), accessFlags := 74, slot := 10, constantValue := 0 }, { name := "props", type := (.object "java/util/Properties"), accessFlags := 10, slot := 11, constantValue := 0 }, { name := "lineSeparator", type := (.object "java/lang/String"), accessFlags := 10, slot := 12, constantValue := 0 }, { name := "bootLayer", type := (.object "java/lang/ModuleLayer"), accessFlags := 8, slot := 13, constantValue := 0 }]
  methods := #[k12m0, k12m1]
  instanceTypes := #[]
  staticTypes := #[(.object "java/io/InputStream"), (.object "java/io/PrintStream"), (.object "java/io/PrintStream"), (.object "java/io/InputStream"), .int, .int, .int, (.object "java/lang/SecurityManager"), (.object "java/lang/String"), (.object "java/io/Console"), (.object "java/io/PrintStream"), (.object "java/util/Properties"), (.object "java/lang/String"), (.object "java/lang/ModuleLayer")]
  resolved := Array.replicate 834 none
  statics := none }

def pool13 : Array CpInfo := pool [(2, .class_ 4), (1, u "java/lang/Object"), (0, u "<init>"), (0, u "()V"), (7, .class_ 16), (1, u "java/util/Arrays"), (57, .class_ 76), (1, u "java/util/Arrays$NaturalOrder"), (36, .class_ 115), (1, u "java/util/Arrays$LegacyMergeSort"), (1, u "Z"), (21, u "copyOfRange"), (10, .methodref 151 152), (0, .class_ 153), (0, .nameAndType 154 155), (0, u "java/lang/System"), (0, u "arraycopy"), (0, u "(Ljava/lang/Object;ILjava/lang/Object;II)V"), (148, .methodref 305 306), (0, .class_ 307), (0, .nameAndType 308 309), (0, u "java/lang/Math"), (0, u "min"), (0, u "(II)I"), (29, .methodref 14 340), (0, .nameAndType 341 342), (0, u "copyOfRangeByte"), (0, u "([BII)[B"), (0, .methodref 14 344), (0, .nameAndType 345 346), (0, u "checkLength"), (0, u "(II)V"), (28, .class_ 376), (0, u "java/util/Arrays$ArrayList"), (68, u "$assertionsDisabled"), (269, u "MIN_ARRAY_SORT_GRAN"), (0, u "I"), (2, u "INSERTIONSORT_THRESHOLD"), (255, .class_ 976), (0, u "java/util/Arrays$ArrayItr")] 52

def k13m0 : Method := { name := "<init>", desc := "()V", sig := { parameters := [], returnType := none }, accessFlags := 2, code := none }
def k13c1 : Code := { maxStack := 4, maxLocals := 2, code := jdk_65_method_131_code, exceptionTable := #[], attributes := #[] }
def k13m1 : Method := { name := "checkLength", desc := "(II)V", sig := { parameters := [.int, .int], returnType := none }, accessFlags := 10, code := some k13c1 }
def k13c2 : Code := { maxStack := 3, maxLocals := 3, code := jdk_65_method_132_code, exceptionTable := #[], attributes := #[] }
def k13m2 : Method := { name := "copyOfRange", desc := "([BII)[B", sig := { parameters := [(.array .byte), .int, .int], returnType := some (.array .byte) }, accessFlags := 9, code := some k13c2 }
def k13c3 : Code := { maxStack := 6, maxLocals := 5, code := jdk_65_method_133_code, exceptionTable := #[], attributes := #[] }
def k13m3 : Method := { name := "copyOfRangeByte", desc := "([BII)[B", sig := { parameters := [(.array .byte), .int, .int], returnType := some (.array .byte) }, accessFlags := 10, code := some k13c3 }
/-- java/util/Arrays -/
def k13 : Class := { plain "java/util/Arrays" (some 0) with
  accessFlags := 49
  interfaces := #[]
  cf := some (fileOf pool13 14 #[.nestMembers #[975, 375, 113, 74]] #[{ accessFlags := 2, nameIndex := 5, descriptorIndex := 6, attributes := #[] }, { accessFlags := 10, nameIndex := 345, descriptorIndex := 346, attributes := #[] }, { accessFlags := 9, nameIndex := 139, descriptorIndex := 342, attributes := #[] }, { accessFlags := 10, nameIndex := 341, descriptorIndex := 342, attributes := #[] }] 49 2 #[] #[{ accessFlags := 26, nameIndex := 715, descriptorIndex := 716, attributes := #[] }, { accessFlags := 26, nameIndex := 719, descriptorIndex := 716, attributes := #[] }, { accessFlags := 4120, nameIndex := 445, descriptorIndex := 117, attributes := #[] }])
  fields := #[{ name := "MIN_ARRAY_SORT_GRAN", type := .int, accessFlags := 26, slot := 0, constantValue := 0 }, { name := "INSERTIONSORT_THRESHOLD", type := .int, accessFlags := 26, slot := 1, constantValue := 0 }, { name := "$assertionsDisabled", type := .boolean, accessFlags := 4120, slot := 2, constantValue := 0 }]
  methods := #[k13m0, k13m1, k13m2, k13m3]
  instanceTypes := #[]
  staticTypes := #[.int, .int, .boolean]
  resolved := Array.replicate 1029 none
  statics := none }

def pool14 : Array CpInfo := pool [(1, .class_ 2), (0, u "java/lang/Math"), (1, .class_ 6), (1, u "java/lang/Object"), (0, u "<init>"), (0, u "()V"), (89, .class_ 100), (1, u "java/lang/Math$RandomNumberGeneratorHolder"), (71, u "negativeZeroFloatBits"), (0, u "J"), (2, u "negativeZeroDoubleBits"), (24, u "min"), (43, u "$assertionsDisabled"), (0, u "Z"), (88, u "(II)I"), (2, u "twoToTheDoubleScaleDown"), (0, u "D"), (4, u "twoToTheDoubleScaleUp"), (9, u "E"), (3, u "PI"), (2, u "TAU"), (2, u "DEGREES_TO_RADIANS"), (0, u "RADIANS_TO_DEGREES")] 94

def k14m0 : Method := { name := "<init>", desc := "()V", sig := { parameters := [], returnType := none }, accessFlags := 2, code := none }
def k14c1 : Code := { maxStack := 2, maxLocals := 2, code := jdk_29_method_69_code, exceptionTable := #[], attributes := #[] }
def k14m1 : Method := { name := "min", desc := "(II)I", sig := { parameters := [.int, .int], returnType := some .int }, accessFlags := 9, code := some k14c1 }
/-- java/lang/Math -/
def k14 : Class := { plain "java/lang/Math" (some 0) with
  accessFlags := 49
  interfaces := #[]
  cf := some (fileOf pool14 1 #[.nestMembers #[98]] #[{ accessFlags := 2, nameIndex := 7, descriptorIndex := 8, attributes := #[] }, { accessFlags := 9, nameIndex := 201, descriptorIndex := 335, attributes := #[] }] 49 4 #[] #[{ accessFlags := 25, nameIndex := 354, descriptorIndex := 339, attributes := #[] }, { accessFlags := 25, nameIndex := 358, descriptorIndex := 339, attributes := #[] }, { accessFlags := 25, nameIndex := 361, descriptorIndex := 339, attributes := #[] }, { accessFlags := 26, nameIndex := 364, descriptorIndex := 339, attributes := #[] }, { accessFlags := 26, nameIndex := 365, descriptorIndex := 339, attributes := #[] }, { accessFlags := 26, nameIndex := 172, descriptorIndex := 173, attributes := #[] }, { accessFlags := 26, nameIndex := 176, descriptorIndex := 173, attributes := #[] }, { accessFlags := 8, nameIndex := 344, descriptorIndex := 339, attributes := #[] }, { accessFlags := 8, nameIndex := 338, descriptorIndex := 339, attributes := #[] }, { accessFlags := 4120, nameIndex := 245, descriptorIndex := 246, attributes := #[] }])
  fields := #[{ name := "E", type := .double, accessFlags := 25, slot := 0, constantValue := 0 }, { name := "PI", type := .double, accessFlags := 25, slot := 1, constantValue := 0 }, { name := "TAU", type := .double, accessFlags := 25, slot := 2, constantValue := 0 }, { name := "DEGREES_TO_RADIANS", type := .double, accessFlags := 26, slot := 3, constantValue := 0 }, { name := "RADIANS_TO_DEGREES", type := .double, accessFlags := 26, slot := 4, constantValue := 0 }, { name := "negativeZeroFloatBits", type := .long, accessFlags := 26, slot := 5, constantValue := 0 }, { name := "negativeZeroDoubleBits", type := .long, accessFlags := 26, slot := 6, constantValue := 0 }, { name := "twoToTheDoubleScaleUp", type := .double, accessFlags := 8, slot := 7, constantValue := 0 }, { name := "twoToTheDoubleScaleDown", type := .double, accessFlags := 8, slot := 8, constantValue := 0 }, { name := "$assertionsDisabled", type := .boolean, accessFlags := 4120, slot := 9, constantValue := 0 }]
  methods := #[k14m0, k14m1]
  instanceTypes := #[]
  staticTypes := #[.double, .double, .double, .double, .double, .long, .long, .double, .double, .boolean]
  resolved := Array.replicate 460 none
  statics := none }

def pool15 : Array CpInfo := pool [(2, .class_ 4), (1, u "java/lang/Object"), (0, u "<init>"), (0, u "()V"), (14, .class_ 23), (1, u "java/nio/charset/StandardCharsets"), (0, u "US_ASCII"), (0, u "Ljava/nio/charset/Charset;"), (7, u "ISO_8859_1"), (7, u "UTF_8"), (5, u "UTF_16BE"), (5, u "UTF_16LE"), (5, u "UTF_16")] 8

def k15m0 : Method := { name := "<init>", desc := "()V", sig := { parameters := [], returnType := none }, accessFlags := 2, code := none }
/-- java/nio/charset/StandardCharsets -/
def k15 : Class := { plain "java/nio/charset/StandardCharsets" (some 0) with
  accessFlags := 49
  interfaces := #[]
  cf := some (fileOf pool15 21 #[] #[{ accessFlags := 2, nameIndex := 5, descriptorIndex := 6, attributes := #[] }] 49 2 #[] #[{ accessFlags := 25, nameIndex := 24, descriptorIndex := 25, attributes := #[] }, { accessFlags := 25, nameIndex := 33, descriptorIndex := 25, attributes := #[] }, { accessFlags := 25, nameIndex := 41, descriptorIndex := 25, attributes := #[] }, { accessFlags := 25, nameIndex := 47, descriptorIndex := 25, attributes := #[] }, { accessFlags := 25, nameIndex := 53, descriptorIndex := 25, attributes := #[] }, { accessFlags := 25, nameIndex := 59, descriptorIndex := 25, attributes := #[] }])
  fields := #[{ name := "US_ASCII", type := (.object "java/nio/charset/Charset"), accessFlags := 25, slot := 0, constantValue := 0 }, { name := "ISO_8859_1", type := (.object "java/nio/charset/Charset"), accessFlags := 25, slot := 1, constantValue := 0 }, { name := "UTF_8", type := (.object "java/nio/charset/Charset"), accessFlags := 25, slot := 2, constantValue := 0 }, { name := "UTF_16BE", type := (.object "java/nio/charset/Charset"), accessFlags := 25, slot := 3, constantValue := 0 }, { name := "UTF_16LE", type := (.object "java/nio/charset/Charset"), accessFlags := 25, slot := 4, constantValue := 0 }, { name := "UTF_16", type := (.object "java/nio/charset/Charset"), accessFlags := 25, slot := 5, constantValue := 0 }]
  methods := #[k15m0]
  instanceTypes := #[]
  staticTypes := #[(.object "java/nio/charset/Charset"), (.object "java/nio/charset/Charset"), (.object "java/nio/charset/Charset"), (.object "java/nio/charset/Charset"), (.object "java/nio/charset/Charset"), (.object "java/nio/charset/Charset")]
  resolved := Array.replicate 68 none
  statics := some 1 }

def pool16 : Array CpInfo := pool [(18, .class_ 20), (1, u "java/nio/charset/Charset"), (0, u "cache1"), (0, u "[Ljava/lang/Object;"), (2, u "cache2"), (0, .class_ 27), (0, u "java/lang/Object"), (0, .class_ 29), (0, u "java/nio/charset/Charset$1"), (4, .class_ 36), (1, u "java/nio/charset/Charset$ThreadTrackHolder"), (21, .class_ 59), (0, u "java/nio/charset/Charset$2"), (11, .class_ 73), (1, u "java/nio/charset/Charset$ExtendedProviderHolder"), (22, u "standardProvider"), (0, u "Ljava/nio/charset/spi/CharsetProvider;"), (29, u "name"), (7, .class_ 136), (0, u "java/nio/charset/Charset$3"), (5, u "defaultCharset"), (0, u "Ljava/nio/charset/Charset;"), (14, u "zeroAliases"), (0, u "[Ljava/lang/String;"), (29, u "Ljava/lang/String;"), (2, u "aliases"), (2, u "aliasSet"), (0, u "Ljava/util/Set;"), (82, .class_ 280), (0, u "java/lang/Comparable"), (84, .class_ 366), (0, u "java/nio/charset/Charset$ExtendedProviderHolder$1")] 3

/-- java/nio/charset/Charset -/
def k16 : Class := { plain "java/nio/charset/Charset" (some 0) with
  accessFlags := 1057
  interfaces := #[3]
  cf := some (fileOf pool16 18 #[.nestMembers #[71, 365, 34, 135, 58, 28]] #[] 1057 26 #[279] #[{ accessFlags := 26, nameIndex := 96, descriptorIndex := 97, attributes := #[] }, { accessFlags := 26, nameIndex := 158, descriptorIndex := 159, attributes := #[] }, { accessFlags := 74, nameIndex := 21, descriptorIndex := 22, attributes := #[] }, { accessFlags := 74, nameIndex := 25, descriptorIndex := 22, attributes := #[] }, { accessFlags := 10, nameIndex := 142, descriptorIndex := 143, attributes := #[] }, { accessFlags := 18, nameIndex := 127, descriptorIndex := 189, attributes := #[] }, { accessFlags := 18, nameIndex := 192, descriptorIndex := 159, attributes := #[] }, { accessFlags := 2, nameIndex := 195, descriptorIndex := 196, attributes := #[] }])
  fields := #[{ name := "standardProvider", type := (.object "java/nio/charset/spi/CharsetProvider"), accessFlags := 26, slot := 0, constantValue := 0 }, { name := "zeroAliases", type := (.array (.object "java/lang/String")), accessFlags := 26, slot := 1, constantValue := 0 }, { name := "cache1", type := (.array (.object "java/lang/Object")), accessFlags := 74, slot := 2, constantValue := 0 }, { name := "cache2", type := (.array (.object "java/lang/Object")), accessFlags := 74, slot := 3, constantValue := 0 }, { name := "defaultCharset", type := (.object "java/nio/charset/Charset"), accessFlags := 10, slot := 4, constantValue := 0 }, { name := "name", type := (.object "java/lang/String"), accessFlags := 18, slot := 0, constantValue := 0 }, { name := "aliases", type := (.array (.object "java/lang/String")), accessFlags := 18, slot := 1, constantValue := 0 }, { name := "aliasSet", type := (.object "java/util/Set"), accessFlags := 2, slot := 2, constantValue := 0 }]
  methods := #[]
  instanceTypes := #[(.object "java/lang/String"), (.array (.object "java/lang/String")), (.object "java/util/Set")]
  staticTypes := #[(.object "java/nio/charset/spi/CharsetProvider"), (.array (.object "java/lang/String")), (.array (.object "java/lang/Object")), (.array (.object "java/lang/Object")), (.object "java/nio/charset/Charset")]
  resolved := Array.replicate 370 none
  statics := none }

def pool17 : Array CpInfo := pool [(1, .class_ 2), (0, u "sun/nio/cs/HistoricallyNamedCharset"), (0, .class_ 4), (0, u "java/lang/Object")] 4

/-- sun/nio/cs/HistoricallyNamedCharset -/
def k17 : Class := { plain "sun/nio/cs/HistoricallyNamedCharset" (some 0) with
  accessFlags := 1537
  interfaces := #[]
  cf := some (fileOf pool17 1 #[] #[] 1537 3 #[] #[])
  fields := #[]
  methods := #[]
  instanceTypes := #[]
  staticTypes := #[]
  resolved := Array.replicate 9 none
  statics := none }

def pool18 : Array CpInfo := pool [(2, .class_ 4), (1, u "java/nio/charset/Charset"), (130, .class_ 136), (0, u "sun/nio/cs/Unicode"), (0, .class_ 138), (0, u "sun/nio/cs/HistoricallyNamedCharset")] 15

/-- sun/nio/cs/Unicode -/
def k18 : Class := { plain "sun/nio/cs/Unicode" (some 16) with
  accessFlags := 1056
  interfaces := #[17]
  cf := some (fileOf pool18 135 #[] #[] 1056 2 #[137] #[])
  fields := #[]
  methods := #[]
  instanceTypes := #[(.object "java/lang/String"), (.array (.object "java/lang/String")), (.object "java/util/Set")]
  staticTypes := #[]
  resolved := Array.replicate 154 none
  statics := none }

def pool19 : Array CpInfo := pool [(10, .class_ 12), (1, u "sun/nio/cs/Unicode"), (0, u "<init>"), (3, .class_ 18), (0, u "sun/nio/cs/UTF_8$Decoder"), (3, .class_ 23), (0, u "sun/nio/cs/UTF_8$Encoder"), (15, .class_ 40), (0, u "sun/nio/cs/UTF_8"), (2, u "()V"), (2, u "INSTANCE"), (0, u "Lsun/nio/cs/UTF_8;"), (8, u "JLA"), (0, u "Ljdk/internal/access/JavaLangAccess;")] 26

def k19m0 : Method := { name := "<init>", desc := "()V", sig := { parameters := [], returnType := none }, accessFlags := 1, code := none }
/-- sun/nio/cs/UTF_8 -/
def k19 : Class := { plain "sun/nio/cs/UTF_8" (some 18) with
  accessFlags := 49
  interfaces := #[]
  cf := some (fileOf pool19 39 #[.nestMembers #[22, 17]] #[{ accessFlags := 1, nameIndex := 13, descriptorIndex := 43, attributes := #[] }] 49 10 #[] #[{ accessFlags := 25, nameIndex := 46, descriptorIndex := 47, attributes := #[] }, { accessFlags := 26, nameIndex := 56, descriptorIndex := 57, attributes := #[] }])
  fields := #[{ name := "INSTANCE", type := (.object "sun/nio/cs/UTF_8"), accessFlags := 25, slot := 0, constantValue := 0 }, { name := "JLA", type := (.object "jdk/internal/access/JavaLangAccess"), accessFlags := 26, slot := 1, constantValue := 0 }]
  methods := #[k19m0]
  instanceTypes := #[(.object "java/lang/String"), (.array (.object "java/lang/String")), (.object "java/util/Set")]
  staticTypes := #[(.object "sun/nio/cs/UTF_8"), (.object "jdk/internal/access/JavaLangAccess")]
  resolved := Array.replicate 84 none
  statics := some 2 }

def pool20 : Array CpInfo := pool [(10, .class_ 12), (1, u "java/nio/charset/Charset"), (0, u "<init>"), (5, .class_ 20), (0, u "sun/nio/cs/ISO_8859_1"), (0, .class_ 22), (0, u "sun/nio/cs/ISO_8859_1$Decoder"), (3, .class_ 27), (0, u "sun/nio/cs/ISO_8859_1$Encoder"), (3, u "()V"), (2, u "INSTANCE"), (0, u "Lsun/nio/cs/ISO_8859_1;"), (0, .class_ 37), (0, u "sun/nio/cs/HistoricallyNamedCharset")] 22

def k20m0 : Method := { name := "<init>", desc := "()V", sig := { parameters := [], returnType := none }, accessFlags := 1, code := none }
/-- sun/nio/cs/ISO_8859_1 -/
def k20 : Class := { plain "sun/nio/cs/ISO_8859_1" (some 16) with
  accessFlags := 33
  interfaces := #[17]
  cf := some (fileOf pool20 19 #[.nestMembers #[26, 21]] #[{ accessFlags := 1, nameIndex := 13, descriptorIndex := 31, attributes := #[] }] 33 10 #[36] #[{ accessFlags := 25, nameIndex := 34, descriptorIndex := 35, attributes := #[] }])
  fields := #[{ name := "INSTANCE", type := (.object "sun/nio/cs/ISO_8859_1"), accessFlags := 25, slot := 0, constantValue := 0 }]
  methods := #[k20m0]
  instanceTypes := #[(.object "java/lang/String"), (.array (.object "java/lang/String")), (.object "java/util/Set")]
  staticTypes := #[(.object "sun/nio/cs/ISO_8859_1")]
  resolved := Array.replicate 60 none
  statics := some 3 }

def pool21 : Array CpInfo := pool [(10, .class_ 12), (1, u "java/nio/charset/Charset"), (0, u "<init>"), (3, .class_ 18), (0, u "sun/nio/cs/US_ASCII"), (0, .class_ 20), (0, u "sun/nio/cs/US_ASCII$Decoder"), (3, .class_ 25), (0, u "sun/nio/cs/US_ASCII$Encoder"), (3, u "()V"), (2, u "INSTANCE"), (0, u "Lsun/nio/cs/US_ASCII;"), (8, u "JLA"), (0, u "Ljdk/internal/access/JavaLangAccess;"), (0, .class_ 45), (0, u "sun/nio/cs/HistoricallyNamedCharset")] 21

def k21m0 : Method := { name := "<init>", desc := "()V", sig := { parameters := [], returnType := none }, accessFlags := 1, code := none }
/-- sun/nio/cs/US_ASCII -/
def k21 : Class := { plain "sun/nio/cs/US_ASCII" (some 16) with
  accessFlags := 33
  interfaces := #[17]
  cf := some (fileOf pool21 17 #[.nestMembers #[24, 19]] #[{ accessFlags := 1, nameIndex := 13, descriptorIndex := 29, attributes := #[] }] 33 10 #[44] #[{ accessFlags := 25, nameIndex := 32, descriptorIndex := 33, attributes := #[] }, { accessFlags := 26, nameIndex := 42, descriptorIndex := 43, attributes := #[] }])
  fields := #[{ name := "INSTANCE", type := (.object "sun/nio/cs/US_ASCII"), accessFlags := 25, slot := 0, constantValue := 0 }, { name := "JLA", type := (.object "jdk/internal/access/JavaLangAccess"), accessFlags := 26, slot := 1, constantValue := 0 }]
  methods := #[k21m0]
  instanceTypes := #[(.object "java/lang/String"), (.array (.object "java/lang/String")), (.object "java/util/Set")]
  staticTypes := #[(.object "sun/nio/cs/US_ASCII"), (.object "jdk/internal/access/JavaLangAccess")]
  resolved := Array.replicate 67 none
  statics := some 4 }

def pool22 : Array CpInfo := pool [(2, .class_ 4), (1, u "java/lang/Object"), (0, u "<init>"), (0, u "()V"), (1, .class_ 10), (1, u "java/lang/StringCoding"), (0, u "countPositives"), (0, u "([BII)I")] 36

def k22m0 : Method := { name := "<init>", desc := "()V", sig := { parameters := [], returnType := none }, accessFlags := 2, code := none }
def k22c1 : Code := { maxStack := 2, maxLocals := 5, code := jdk_123_method_3_code, exceptionTable := #[], attributes := #[] }
def k22m1 : Method := { name := "countPositives", desc := "([BII)I", sig := { parameters := [(.array .byte), .int, .int], returnType := some .int }, accessFlags := 9, code := some k22c1 }
/-- java/lang/StringCoding -/
def k22 : Class := { plain "java/lang/StringCoding" (some 0) with
  accessFlags := 32
  interfaces := #[]
  cf := some (fileOf pool22 8 #[] #[{ accessFlags := 2, nameIndex := 5, descriptorIndex := 6, attributes := #[] }, { accessFlags := 9, nameIndex := 11, descriptorIndex := 12, attributes := #[] }] 32 2 #[] #[])
  fields := #[]
  methods := #[k22m0, k22m1]
  instanceTypes := #[]
  staticTypes := #[]
  resolved := Array.replicate 49 none
  statics := none }

def pool23 : Array CpInfo := pool [(1, .class_ 2), (0, u "java/lang/Cloneable"), (0, .class_ 4), (0, u "java/lang/Object")] 2

/-- java/lang/Cloneable -/
def k23 : Class := { plain "java/lang/Cloneable" (some 0) with
  accessFlags := 1537
  interfaces := #[]
  cf := some (fileOf pool23 1 #[] #[] 1537 3 #[] #[])
  fields := #[]
  methods := #[]
  instanceTypes := #[]
  staticTypes := #[]
  resolved := Array.replicate 7 none
  statics := none }

def pool24 : Array CpInfo := pool [(6, .class_ 8), (1, u "java/lang/Object"), (0, u "<init>"), (0, u "()V"), (1, .class_ 14), (1, u "java/lang/StringUTF16"), (31, u "$assertionsDisabled"), (0, u "Z"), (13, u "HI_BYTE_SHIFT"), (0, u "I"), (2, u "LO_BYTE_SHIFT"), (49, .methodref 12 116), (0, .nameAndType 117 118), (0, u "compress"), (0, u "([CI[BII)I"), (3, u "([CII)[B"), (138, u "coderFromArrayLen"), (0, u "([BI)B"), (106, .class_ 371), (1, u "java/lang/StringUTF16$LinesSpliterator"), (58, u "MAX_LENGTH"), (196, .class_ 628), (0, u "java/lang/StringUTF16$CodePointsSpliterator"), (0, .class_ 630), (0, u "java/lang/StringUTF16$CharsSpliterator")] 4

def k24m0 : Method := { name := "<init>", desc := "()V", sig := { parameters := [], returnType := none }, accessFlags := 0, code := none }
def k24c1 : Code := { maxStack := 2, maxLocals := 2, code := jdk_52_method_15_code, exceptionTable := #[], attributes := #[] }
def k24m1 : Method := { name := "coderFromArrayLen", desc := "([BI)B", sig := { parameters := [(.array .byte), .int], returnType := some .byte }, accessFlags := 8, code := some k24c1 }
def k24c2 : Code := { maxStack := 5, maxLocals := 6, code := jdk_52_method_16_code, exceptionTable := #[], attributes := #[] }
def k24m2 : Method := { name := "compress", desc := "([CII)[B", sig := { parameters := [(.array .char), .int, .int], returnType := some (.array .byte) }, accessFlags := 9, code := some k24c2 }
def k24c3 : Code := { maxStack := 3, maxLocals := 7, code := jdk_52_method_21_code, exceptionTable := #[], attributes := #[] }
def k24m3 : Method := { name := "compress", desc := "([CI[BII)I", sig := { parameters := [(.array .char), .int, (.array .byte), .int, .int], returnType := some .int }, accessFlags := 9, code := some k24c3 }
/-- java/lang/StringUTF16 -/
def k24 : Class := { plain "java/lang/StringUTF16" (some 0) with
  accessFlags := 48
  interfaces := #[]
  cf := some (fileOf pool24 12 #[.nestMembers #[627, 629, 369]] #[{ accessFlags := 0, nameIndex := 9, descriptorIndex := 10, attributes := #[] }, { accessFlags := 8, nameIndex := 261, descriptorIndex := 262, attributes := #[] }, { accessFlags := 9, nameIndex := 117, descriptorIndex := 122, attributes := #[] }, { accessFlags := 9, nameIndex := 117, descriptorIndex := 118, attributes := #[] }] 48 6 #[] #[{ accessFlags := 26, nameIndex := 61, descriptorIndex := 62, attributes := #[] }, { accessFlags := 26, nameIndex := 65, descriptorIndex := 62, attributes := #[] }, { accessFlags := 24, nameIndex := 430, descriptorIndex := 62, attributes := #[] }, { accessFlags := 4120, nameIndex := 46, descriptorIndex := 47, attributes := #[] }])
  fields := #[{ name := "HI_BYTE_SHIFT", type := .int, accessFlags := 26, slot := 0, constantValue := 0 }, { name := "LO_BYTE_SHIFT", type := .int, accessFlags := 26, slot := 1, constantValue := 0 }, { name := "MAX_LENGTH", type := .int, accessFlags := 24, slot := 2, constantValue := 0 }, { name := "$assertionsDisabled", type := .boolean, accessFlags := 4120, slot := 3, constantValue := 0 }]
  methods := #[k24m0, k24m1, k24m2, k24m3]
  instanceTypes := #[]
  staticTypes := #[.int, .int, .int, .boolean]
  resolved := Array.replicate 635 none
  statics := none }

def pool25 : Array CpInfo := pool [(4, .class_ 6), (1, u "java/lang/Object"), (0, u "<init>"), (0, u "()V"), (5, .class_ 16), (1, u "java/lang/StringLatin1"), (104, u "$assertionsDisabled"), (0, u "Z"), (98, .class_ 223), (1, u "java/lang/StringLatin1$LinesSpliterator"), (166, .class_ 391), (0, u "java/lang/StringLatin1$CharsSpliterator")] 3

def k25m0 : Method := { name := "<init>", desc := "()V", sig := { parameters := [], returnType := none }, accessFlags := 0, code := none }
/-- java/lang/StringLatin1 -/
def k25 : Class := { plain "java/lang/StringLatin1" (some 0) with
  accessFlags := 48
  interfaces := #[]
  cf := some (fileOf pool25 14 #[.nestMembers #[390, 221]] #[{ accessFlags := 0, nameIndex := 7, descriptorIndex := 8, attributes := #[] }] 48 4 #[] #[{ accessFlags := 4120, nameIndex := 121, descriptorIndex := 122, attributes := #[] }])
  fields := #[{ name := "$assertionsDisabled", type := .boolean, accessFlags := 4120, slot := 0, constantValue := 0 }]
  methods := #[k25m0]
  instanceTypes := #[]
  staticTypes := #[.boolean]
  resolved := Array.replicate 395 none
  statics := none }

def pool26 : Array CpInfo := pool [(2, .class_ 4), (1, u "java/lang/Object"), (0, u "<init>"), (0, u "()V"), (17, .class_ 26), (1, u "jdk/internal/util/Preconditions"), (28, .class_ 56), (0, u "jdk/internal/util/Preconditions$4"), (57, .class_ 115), (0, u "jdk/internal/util/Preconditions$1"), (7, u "SIOOBE_FORMATTER"), (0, u "Ljava/util/function/BiFunction;"), (0, .class_ 126), (0, u "jdk/internal/util/Preconditions$2"), (3, u "AIOOBE_FORMATTER"), (0, .class_ 132), (0, u "jdk/internal/util/Preconditions$3"), (3, u "IOOBE_FORMATTER")] 57

def k26m0 : Method := { name := "<init>", desc := "()V", sig := { parameters := [], returnType := none }, accessFlags := 1, code := none }
/-- jdk/internal/util/Preconditions -/
def k26 : Class := { plain "jdk/internal/util/Preconditions" (some 0) with
  accessFlags := 33
  interfaces := #[]
  cf := some (fileOf pool26 24 #[.nestMembers #[55, 131, 125, 114]] #[{ accessFlags := 1, nameIndex := 5, descriptorIndex := 6, attributes := #[] }] 33 2 #[] #[{ accessFlags := 25, nameIndex := 123, descriptorIndex := 124, attributes := #[] }, { accessFlags := 25, nameIndex := 130, descriptorIndex := 124, attributes := #[] }, { accessFlags := 25, nameIndex := 136, descriptorIndex := 124, attributes := #[] }])
  fields := #[{ name := "SIOOBE_FORMATTER", type := (.object "java/util/function/BiFunction"), accessFlags := 25, slot := 0, constantValue := 0 }, { name := "AIOOBE_FORMATTER", type := (.object "java/util/function/BiFunction"), accessFlags := 25, slot := 1, constantValue := 0 }, { name := "IOOBE_FORMATTER", type := (.object "java/util/function/BiFunction"), accessFlags := 25, slot := 2, constantValue := 0 }]
  methods := #[k26m0]
  instanceTypes := #[]
  staticTypes := #[(.object "java/util/function/BiFunction"), (.object "java/util/function/BiFunction"), (.object "java/util/function/BiFunction")]
  resolved := Array.replicate 194 none
  statics := some 5 }

def pool27 : Array CpInfo := pool [(9, u "<init>"), (6, .class_ 18), (1, u "java/lang/Object"), (0, u "()V"), (1, .class_ 23), (1, u "jdk/internal/util/ArraysSupport"), (0, u "LOG2_ARRAY_LONG_INDEX_SCALE"), (0, u "I"), (2, u "U"), (0, u "Ljdk/internal/misc/Unsafe;"), (8, u "BIG_ENDIAN"), (0, u "Z"), (8, u "LOG2_BYTE_BIT_SIZE"), (4, u "LOG2_ARRAY_INT_INDEX_SCALE"), (54, u "JLA"), (0, u "Ljdk/internal/access/JavaLangAccess;"), (11, u "LOG2_ARRAY_BOOLEAN_INDEX_SCALE"), (9, u "LOG2_ARRAY_BYTE_INDEX_SCALE"), (5, u "LOG2_ARRAY_CHAR_INDEX_SCALE"), (5, u "LOG2_ARRAY_SHORT_INDEX_SCALE"), (18, u "LOG2_ARRAY_FLOAT_INDEX_SCALE"), (24, u "LOG2_ARRAY_DOUBLE_INDEX_SCALE"), (89, u "T_BOOLEAN"), (2, u "T_CHAR"), (1, u "T_FLOAT"), (1, u "T_DOUBLE"), (1, u "T_BYTE"), (1, u "T_SHORT"), (1, u "T_INT"), (1, u "T_LONG"), (1, u "SOFT_MAX_ARRAY_LENGTH")] 83

def k27m0 : Method := { name := "<init>", desc := "()V", sig := { parameters := [], returnType := none }, accessFlags := 2, code := none }
/-- jdk/internal/util/ArraysSupport -/
def k27 : Class := { plain "jdk/internal/util/ArraysSupport" (some 0) with
  accessFlags := 33
  interfaces := #[]
  cf := some (fileOf pool27 21 #[] #[{ accessFlags := 2, nameIndex := 9, descriptorIndex := 19, attributes := #[] }] 33 16 #[] #[{ accessFlags := 24, nameIndex := 28, descriptorIndex := 29, attributes := #[] }, { accessFlags := 26, nameIndex := 38, descriptorIndex := 39, attributes := #[] }, { accessFlags := 25, nameIndex := 121, descriptorIndex := 25, attributes := #[] }, { accessFlags := 25, nameIndex := 131, descriptorIndex := 25, attributes := #[] }, { accessFlags := 25, nameIndex := 137, descriptorIndex := 25, attributes := #[] }, { accessFlags := 25, nameIndex := 143, descriptorIndex := 25, attributes := #[] }, { accessFlags := 25, nameIndex := 53, descriptorIndex := 25, attributes := #[] }, { accessFlags := 25, nameIndex := 24, descriptorIndex := 25, attributes := #[] }, { accessFlags := 25, nameIndex := 162, descriptorIndex := 25, attributes := #[] }, { accessFlags := 25, nameIndex := 187, descriptorIndex := 25, attributes := #[] }, { accessFlags := 26, nameIndex := 48, descriptorIndex := 25, attributes := #[] }, { accessFlags := 25, nameIndex := 277, descriptorIndex := 25, attributes := #[] }, { accessFlags := 25, nameIndex := 280, descriptorIndex := 25, attributes := #[] }, { accessFlags := 25, nameIndex := 282, descriptorIndex := 25, attributes := #[] }, { accessFlags := 25, nameIndex := 284, descriptorIndex := 25, attributes := #[] }, { accessFlags := 25, nameIndex := 286, descriptorIndex := 25, attributes := #[] }, { accessFlags := 25, nameIndex := 288, descriptorIndex := 25, attributes := #[] }, { accessFlags := 25, nameIndex := 290, descriptorIndex := 25, attributes := #[] }, { accessFlags := 25, nameIndex := 292, descriptorIndex := 25, attributes := #[] }, { accessFlags := 26, nameIndex := 108, descriptorIndex := 109, attributes := #[] }, { accessFlags := 25, nameIndex := 294, descriptorIndex := 25, attributes := #[] }])
  fields := #[{ name := "U", type := (.object "jdk/internal/misc/Unsafe"), accessFlags := 24, slot := 0, constantValue := 0 }, { name := "BIG_ENDIAN", type := .boolean, accessFlags := 26, slot := 1, constantValue := 0 }, { name := "LOG2_ARRAY_BOOLEAN_INDEX_SCALE", type := .int, accessFlags := 25, slot := 2, constantValue := 0 }, { name := "LOG2_ARRAY_BYTE_INDEX_SCALE", type := .int, accessFlags := 25, slot := 3, constantValue := 0 }, { name := "LOG2_ARRAY_CHAR_INDEX_SCALE", type := .int, accessFlags := 25, slot := 4, constantValue := 0 }, { name := "LOG2_ARRAY_SHORT_INDEX_SCALE", type := .int, accessFlags := 25, slot := 5, constantValue := 0 }, { name := "LOG2_ARRAY_INT_INDEX_SCALE", type := .int, accessFlags := 25, slot := 6, constantValue := 0 }, { name := "LOG2_ARRAY_LONG_INDEX_SCALE", type := .int, accessFlags := 25, slot := 7, constantValue := 0 }, { name := "LOG2_ARRAY_FLOAT_INDEX_SCALE", type := .int, accessFlags := 25, slot := 8, constantValue := 0 }, { name := "LOG2_ARRAY_DOUBLE_INDEX_SCALE", type := .int, accessFlags := 25, slot := 9, constantValue := 0 }, { name := "LOG2_BYTE_BIT_SIZE", type := .int, accessFlags := 26, slot := 10, constantValue := 0 }, { name := "T_BOOLEAN", type := .int, accessFlags := 25, slot := 11, constantValue := 0 }, { name := "T_CHAR", type := .int, accessFlags := 25, slot := 12, constantValue := 0 }, { name := "T_FLOAT", type := .int, accessFlags := 25, slot := 13, constantValue := 0 }, { name := "T_DOUBLE", type := .int, accessFlags := 25, slot := 14, constantValue := 0 }, { name := "T_BYTE", type := .int, accessFlags := 25, slot := 15, constantValue := 0 }, { name := "T_SHORT", type := .int, accessFlags := 25, slot := 16, constantValue := 0 }, { name := "T_INT", type := .int, accessFlags := 25, slot := 17, constantValue := 0 }, { name := "T_LONG", type := .int, accessFlags := 25, slot := 18, constantValue := 0 }, { name := "JLA", type := (.object "jdk/internal/access/JavaLangAccess"), accessFlags := 26, slot := 19, constantValue := 0 }, { name := "SOFT_MAX_ARRAY_LENGTH", type := .int, accessFlags := 25, slot := 20, constantValue := 0 }]
  methods := #[k27m0]
  instanceTypes := #[]
  staticTypes := #[(.object "jdk/internal/misc/Unsafe"), .boolean, .int, .int, .int, .int, .int, .int, .int, .int, .int, .int, .int, .int, .int, .int, .int, .int, .int, (.object "jdk/internal/access/JavaLangAccess"), .int]
  resolved := Array.replicate 378 none
  statics := none }

/-- the primitive byte -/
def k28 : Class := { plain "byte" none with kind := .primitive 'B', accessFlags := 0x411 }
/-- [B -/
def k29 : Class := { plain "[B" (some 0) with kind := .array 28 .byte, interfaces := #[23, 2], accessFlags := 1041 }

/-- the primitive char -/
def k30 : Class := { plain "char" none with kind := .primitive 'C', accessFlags := 0x411 }
/-- [C -/
def k31 : Class := { plain "[C" (some 0) with kind := .array 30 .char, interfaces := #[23, 2], accessFlags := 1041 }

/-- the primitive int -/
def k32 : Class := { plain "int" none with kind := .primitive 'I', accessFlags := 0x411 }
/-- [I -/
def k33 : Class := { plain "[I" (some 0) with kind := .array 32 .int, interfaces := #[23, 2], accessFlags := 1041 }

def heap : Heap := #[{ cls := 7, slots := #[.long 0, .int 1, .null, .int 0, .null, .int 0, .int 0], vm := .statics 7 },
  { cls := 15, slots := #[.ref 6, .null, .null, .null, .null, .null], vm := .statics 15 },
  { cls := 19, slots := #[.ref 7, .null], vm := .statics 19 },
  { cls := 20, slots := #[.ref 8], vm := .statics 20 },
  { cls := 21, slots := #[.ref 6, .null], vm := .statics 21 },
  { cls := 26, slots := #[.null, .null, .null], vm := .statics 26 },
  { cls := 21, slots := #[.null, .null, .null], vm := .none },
  { cls := 19, slots := #[.null, .null, .null], vm := .none },
  { cls := 20, slots := #[.null, .null, .null], vm := .none }]
def classes : Array Class := #[k0, k1, k2, k3, k4, k5, k6, k7, k8, k9, k10, k11, k12, k13, k14, k15, k16, k17, k18, k19, k20, k21, k22, k23, k24, k25, k26, k27, k28, k29, k30, k31, k32, k33]
def interned : List (Array UInt16 × Addr) := []
def slotsUsed : Nat := 30
def theMethod : MethodId := ⟨1, 1⟩
def args0 : Array Value := #[.int 2, .int 65, .int 66, .int 67]
def aboutOver (below : List Frame) : State where
  vm := { classes := classes, interned := interned.toArray }
  heap := heap
  slotsUsed := slotsUsed
  threads := #[{ frames := .invoking theMethod args0 :: below }]
def below0 : List Frame := [.native { method := ⟨0, 0⟩, args := #[] }]
def about1 : State := aboutOver below0
def p0 : Program := .bare "" "" ""
def e0 : Env := launch0.env 0 0 0
theorem w_frames : about1.frames = Frame.invoking theMethod args0 :: below0 := rfl
set_option maxRecDepth 65536 in
theorem w_args : argsFit about1.vm theMethod args0 = true := by decide +kernel
set_option maxRecDepth 65536 in
theorem w_heap : heapFits about1 = true := by decide +kernel
set_option maxRecDepth 65536 in
theorem w_runnable : about1.curStatus? = some .runnable := by decide +kernel
set_option maxRecDepth 65536 in
theorem w_alone : about1.alone = true := by decide +kernel
set_option maxRecDepth 65536 in
theorem w_named : about1.methodNamed? x = some theMethod := by decide +kernel
set_option maxRecDepth 65536 in
theorem w_hears : about1.hears theMethod below0 = true := by decide +kernel
set_option maxRecDepth 65536 in
theorem w_ripe : about1.ripe theMethod args0 below0 = true := by decide +kernel
theorem w_running : about1.status = .running := rfl
set_option maxRecDepth 65536 in
theorem w_room : about1.hasRoom e0.platform room_1 = true :=
  launch0.hasRoom_least _ room_1 (by decide +kernel) (by decide +kernel) (by decide +kernel) (by decide +kernel) (by decide +kernel) (by decide +kernel)
theorem allAtoms_all (ts : List Jvm.Cond) (a : Array Jvm.Value) (st : Jvm.State) : (allAtoms ts).before a st = ts.all (fun c => c.before a st) := by
  induction ts with
  | nil => rfl
  | cons c t ih =>
    show (Jvm.Cond.and c (allAtoms t)).before a st = _
    rw [Jvm.Cond.before_and, ih, List.all_cons]
def words1 : List Jvm.Cond := Jvm.Cond.code x code maxLocals ret :: tables_1
/-- a 'code' word, met by the world's own term for the bytes: nothing is compared byte by byte -/
theorem code_word {y : MethodName} {bytes : ByteArray} {mx : Nat} {rt : Option FieldType} {a : Array Value} {s : State} {m : MethodId} {meth : Method} {c : Code} (h1 : s.methodNamed? y = some m) (h2 : s.vm.method? m = some meth) (h3 : meth.code = some c) (h4 : c.code = bytes)
    (h5 : (c.maxLocals == mx && c.exceptionTable.isEmpty && decide (c.maxStack ≤ mostOperands) && decide (meth.sig.returnType = rt) && !meth.locks && decide (parseMethodDescriptor y.desc = some meth.sig)) = true) : (Jvm.Cond.code y bytes mx rt).before a s = true := by
  simp only [Bool.and_eq_true, beq_iff_eq, Bool.not_eq_true', decide_eq_true_eq] at h5
  obtain ⟨⟨⟨⟨⟨g1, g2⟩, g3⟩, g4⟩, g5⟩, g6⟩ := h5
  simp [Cond.before, Cond.holds, Cond.value, h1, h2, h3, h4, g1, g2, g3, g4, g5, g6]
def isCode : Jvm.Cond → Bool
  | .code _ _ _ _ => true
  | _ => false
theorem all_split {L : List Jvm.Cond} {P : Jvm.Cond → Bool} (h1 : L.all (fun c => isCode c || P c) = true) (h2 : ∀ c ∈ L.filter isCode, P c = true) : L.all P = true := by
  refine List.all_eq_true.mpr fun c hc => ?_
  have h := List.all_eq_true.mp h1 c hc
  rcases Bool.eq_false_or_eq_true (isCode c) with hi | hi
  · exact h2 c (List.mem_filter.mpr ⟨hc, hi⟩)
  · simpa [hi] using h
set_option maxRecDepth 65536 in
theorem w_c0 : (Jvm.Cond.code x code maxLocals ret).before args0 about1 = true := code_word (m := ⟨1, 1⟩) (meth := k1m1) (c := k1c1) (by decide +kernel) rfl rfl rfl (by decide +kernel)
set_option maxRecDepth 65536 in
theorem w_c1 : (Jvm.Cond.code ({ cls := "java/lang/String", name := "<init>", desc := "([C)V" } : Jvm.MethodName) jdk_42_method_3_code (2 : Nat) (Option.none : Option Jvm.ClassFile.FieldType)).before args0 about1 = true := code_word (m := ⟨7, 1⟩) (meth := k7m1) (c := k7c1) (by decide +kernel) rfl rfl rfl (by decide +kernel)
set_option maxRecDepth 65536 in
theorem w_c2 : (Jvm.Cond.code ({ cls := "java/lang/String", name := "<init>", desc := "([CIILjava/lang/Void;)V" } : Jvm.MethodName) jdk_42_method_149_code (6 : Nat) (Option.none : Option Jvm.ClassFile.FieldType)).before args0 about1 = true := code_word (m := ⟨7, 8⟩) (meth := k7m8) (c := k7c8) (by decide +kernel) rfl rfl rfl (by decide +kernel)
set_option maxRecDepth 65536 in
theorem w_c3 : (Jvm.Cond.code ({ cls := "java/lang/Object", name := "<init>", desc := "()V" } : Jvm.MethodName) object_method_1_code (1 : Nat) (Option.none : Option Jvm.ClassFile.FieldType)).before args0 about1 = true := code_word (m := ⟨0, 0⟩) (meth := k0m0) (c := k0c0) (by decide +kernel) rfl rfl rfl (by decide +kernel)
set_option maxRecDepth 65536 in
theorem w_c4 : (Jvm.Cond.code ({ cls := "com/example/holdtube/holdtube/Seal", name := "line", desc := "(Ljava/lang/String;)[B" } : Jvm.MethodName) prog_22_method_4_code (1 : Nat) (Option.some (Jvm.ClassFile.FieldType.array Jvm.ClassFile.FieldType.byte))).before args0 about1 = true := code_word (m := ⟨8, 1⟩) (meth := k8m1) (c := k8c1) (by decide +kernel) rfl rfl rfl (by decide +kernel)
set_option maxRecDepth 65536 in
theorem w_c5 : (Jvm.Cond.code ({ cls := "java/lang/StringBuilder", name := "<init>", desc := "()V" } : Jvm.MethodName) jdk_67_method_1_code (1 : Nat) (Option.none : Option Jvm.ClassFile.FieldType)).before args0 about1 = true := code_word (m := ⟨11, 0⟩) (meth := k11m0) (c := k11c0) (by decide +kernel) rfl rfl rfl (by decide +kernel)
set_option maxRecDepth 65536 in
theorem w_c6 : (Jvm.Cond.code ({ cls := "java/lang/AbstractStringBuilder", name := "<init>", desc := "(I)V" } : Jvm.MethodName) jdk_68_method_2_code (2 : Nat) (Option.none : Option Jvm.ClassFile.FieldType)).before args0 about1 = true := code_word (m := ⟨10, 1⟩) (meth := k10m1) (c := k10c1) (by decide +kernel) rfl rfl rfl (by decide +kernel)
set_option maxRecDepth 65536 in
theorem w_c7 : (Jvm.Cond.code ({ cls := "java/lang/StringBuilder", name := "append", desc := "(Ljava/lang/String;)Ljava/lang/StringBuilder;" } : Jvm.MethodName) jdk_67_method_7_code (2 : Nat) (Option.some (Jvm.ClassFile.FieldType.object "java/lang/StringBuilder"))).before args0 about1 = true := code_word (m := ⟨11, 1⟩) (meth := k11m1) (c := k11c1) (by decide +kernel) rfl rfl rfl (by decide +kernel)
set_option maxRecDepth 65536 in
theorem w_c8 : (Jvm.Cond.code ({ cls := "java/lang/AbstractStringBuilder", name := "append", desc := "(Ljava/lang/String;)Ljava/lang/AbstractStringBuilder;" } : Jvm.MethodName) jdk_68_method_22_code (3 : Nat) (Option.some (Jvm.ClassFile.FieldType.object "java/lang/AbstractStringBuilder"))).before args0 about1 = true := code_word (m := ⟨10, 4⟩) (meth := k10m4) (c := k10c4) (by decide +kernel) rfl rfl rfl (by decide +kernel)
set_option maxRecDepth 65536 in
theorem w_c9 : (Jvm.Cond.code ({ cls := "java/lang/String", name := "length", desc := "()I" } : Jvm.MethodName) jdk_42_method_54_code (1 : Nat) (Option.some Jvm.ClassFile.FieldType.int)).before args0 about1 = true := code_word (m := ⟨7, 5⟩) (meth := k7m5) (c := k7c5) (by decide +kernel) rfl rfl rfl (by decide +kernel)
set_option maxRecDepth 65536 in
theorem w_c10 : (Jvm.Cond.code ({ cls := "java/lang/String", name := "coder", desc := "()B" } : Jvm.MethodName) jdk_42_method_152_code (1 : Nat) (Option.some Jvm.ClassFile.FieldType.byte)).before args0 about1 = true := code_word (m := ⟨7, 10⟩) (meth := k7m10) (c := k7c10) (by decide +kernel) rfl rfl rfl (by decide +kernel)
set_option maxRecDepth 65536 in
theorem w_c11 : (Jvm.Cond.code ({ cls := "java/lang/AbstractStringBuilder", name := "ensureCapacityInternal", desc := "(I)V" } : Jvm.MethodName) jdk_68_method_9_code (3 : Nat) (Option.none : Option Jvm.ClassFile.FieldType)).before args0 about1 = true := code_word (m := ⟨10, 3⟩) (meth := k10m3) (c := k10c3) (by decide +kernel) rfl rfl rfl (by decide +kernel)
set_option maxRecDepth 65536 in
theorem w_c12 : (Jvm.Cond.code ({ cls := "java/lang/AbstractStringBuilder", name := "putStringAt", desc := "(ILjava/lang/String;)V" } : Jvm.MethodName) jdk_68_method_73_code (3 : Nat) (Option.none : Option Jvm.ClassFile.FieldType)).before args0 about1 = true := code_word (m := ⟨10, 8⟩) (meth := k10m8) (c := k10c8) (by decide +kernel) rfl rfl rfl (by decide +kernel)
set_option maxRecDepth 65536 in
theorem w_c13 : (Jvm.Cond.code ({ cls := "java/lang/AbstractStringBuilder", name := "inflateIfNeededFor", desc := "(Ljava/lang/String;)V" } : Jvm.MethodName) jdk_68_method_71_code (2 : Nat) (Option.none : Option Jvm.ClassFile.FieldType)).before args0 about1 = true := code_word (m := ⟨10, 7⟩) (meth := k10m7) (c := k10c7) (by decide +kernel) rfl rfl rfl (by decide +kernel)
set_option maxRecDepth 65536 in
theorem w_c14 : (Jvm.Cond.code ({ cls := "java/lang/String", name := "getBytes", desc := "([BIB)V" } : Jvm.MethodName) jdk_42_method_147_code (4 : Nat) (Option.none : Option Jvm.ClassFile.FieldType)).before args0 about1 = true := code_word (m := ⟨7, 7⟩) (meth := k7m7) (c := k7c7) (by decide +kernel) rfl rfl rfl (by decide +kernel)
set_option maxRecDepth 65536 in
theorem w_c15 : (Jvm.Cond.code ({ cls := "java/lang/StringBuilder", name := "toString", desc := "()Ljava/lang/String;" } : Jvm.MethodName) jdk_67_method_42_code (1 : Nat) (Option.some (Jvm.ClassFile.FieldType.object "java/lang/String"))).before args0 about1 = true := code_word (m := ⟨11, 2⟩) (meth := k11m2) (c := k11c2) (by decide +kernel) rfl rfl rfl (by decide +kernel)
set_option maxRecDepth 65536 in
theorem w_c16 : (Jvm.Cond.code ({ cls := "java/lang/String", name := "<init>", desc := "(Ljava/lang/StringBuilder;)V" } : Jvm.MethodName) jdk_42_method_53_code (2 : Nat) (Option.none : Option Jvm.ClassFile.FieldType)).before args0 about1 = true := code_word (m := ⟨7, 4⟩) (meth := k7m4) (c := k7c4) (by decide +kernel) rfl rfl rfl (by decide +kernel)
set_option maxRecDepth 65536 in
theorem w_c17 : (Jvm.Cond.code ({ cls := "java/lang/String", name := "<init>", desc := "(Ljava/lang/AbstractStringBuilder;Ljava/lang/Void;)V" } : Jvm.MethodName) jdk_42_method_150_code (5 : Nat) (Option.none : Option Jvm.ClassFile.FieldType)).before args0 about1 = true := code_word (m := ⟨7, 9⟩) (meth := k7m9) (c := k7c9) (by decide +kernel) rfl rfl rfl (by decide +kernel)
set_option maxRecDepth 65536 in
theorem w_c18 : (Jvm.Cond.code ({ cls := "java/lang/AbstractStringBuilder", name := "getValue", desc := "()[B" } : Jvm.MethodName) jdk_68_method_64_code (1 : Nat) (Option.some (Jvm.ClassFile.FieldType.array Jvm.ClassFile.FieldType.byte))).before args0 about1 = true := code_word (m := ⟨10, 5⟩) (meth := k10m5) (c := k10c5) (by decide +kernel) rfl rfl rfl (by decide +kernel)
set_option maxRecDepth 65536 in
theorem w_c19 : (Jvm.Cond.code ({ cls := "java/lang/StringBuilder", name := "length", desc := "()I" } : Jvm.MethodName) jdk_67_method_93_code (1 : Nat) (Option.some Jvm.ClassFile.FieldType.int)).before args0 about1 = true := code_word (m := ⟨11, 3⟩) (meth := k11m3) (c := k11c3) (by decide +kernel) rfl rfl rfl (by decide +kernel)
set_option maxRecDepth 65536 in
theorem w_c20 : (Jvm.Cond.code ({ cls := "java/lang/AbstractStringBuilder", name := "length", desc := "()I" } : Jvm.MethodName) jdk_68_method_6_code (1 : Nat) (Option.some Jvm.ClassFile.FieldType.int)).before args0 about1 = true := code_word (m := ⟨10, 2⟩) (meth := k10m2) (c := k10c2) (by decide +kernel) rfl rfl rfl (by decide +kernel)
set_option maxRecDepth 65536 in
theorem w_c21 : (Jvm.Cond.code ({ cls := "java/lang/AbstractStringBuilder", name := "isLatin1", desc := "()Z" } : Jvm.MethodName) jdk_68_method_68_code (1 : Nat) (Option.some Jvm.ClassFile.FieldType.boolean)).before args0 about1 = true := code_word (m := ⟨10, 6⟩) (meth := k10m6) (c := k10c6) (by decide +kernel) rfl rfl rfl (by decide +kernel)
set_option maxRecDepth 65536 in
theorem w_c22 : (Jvm.Cond.code ({ cls := "java/util/Arrays", name := "copyOfRange", desc := "([BII)[B" } : Jvm.MethodName) jdk_65_method_132_code (3 : Nat) (Option.some (Jvm.ClassFile.FieldType.array Jvm.ClassFile.FieldType.byte))).before args0 about1 = true := code_word (m := ⟨13, 2⟩) (meth := k13m2) (c := k13c2) (by decide +kernel) rfl rfl rfl (by decide +kernel)
set_option maxRecDepth 65536 in
theorem w_c23 : (Jvm.Cond.code ({ cls := "java/util/Arrays", name := "copyOfRangeByte", desc := "([BII)[B" } : Jvm.MethodName) jdk_65_method_133_code (5 : Nat) (Option.some (Jvm.ClassFile.FieldType.array Jvm.ClassFile.FieldType.byte))).before args0 about1 = true := code_word (m := ⟨13, 3⟩) (meth := k13m3) (c := k13c3) (by decide +kernel) rfl rfl rfl (by decide +kernel)
set_option maxRecDepth 65536 in
theorem w_c24 : (Jvm.Cond.code ({ cls := "java/util/Arrays", name := "checkLength", desc := "(II)V" } : Jvm.MethodName) jdk_65_method_131_code (2 : Nat) (Option.none : Option Jvm.ClassFile.FieldType)).before args0 about1 = true := code_word (m := ⟨13, 1⟩) (meth := k13m1) (c := k13c1) (by decide +kernel) rfl rfl rfl (by decide +kernel)
set_option maxRecDepth 65536 in
theorem w_c25 : (Jvm.Cond.code ({ cls := "java/lang/Math", name := "min", desc := "(II)I" } : Jvm.MethodName) jdk_29_method_69_code (2 : Nat) (Option.some Jvm.ClassFile.FieldType.int)).before args0 about1 = true := code_word (m := ⟨14, 1⟩) (meth := k14m1) (c := k14c1) (by decide +kernel) rfl rfl rfl (by decide +kernel)
set_option maxRecDepth 65536 in
theorem w_c26 : (Jvm.Cond.code ({ cls := "java/lang/String", name := "getBytes", desc := "(Ljava/nio/charset/Charset;)[B" } : Jvm.MethodName) jdk_42_method_64_code (2 : Nat) (Option.some (Jvm.ClassFile.FieldType.array Jvm.ClassFile.FieldType.byte))).before args0 about1 = true := code_word (m := ⟨7, 6⟩) (meth := k7m6) (c := k7c6) (by decide +kernel) rfl rfl rfl (by decide +kernel)
set_option maxRecDepth 65536 in
theorem w_c27 : (Jvm.Cond.code ({ cls := "java/lang/String", name := "encode", desc := "(Ljava/nio/charset/Charset;B[B)[B" } : Jvm.MethodName) jdk_42_method_18_code (3 : Nat) (Option.some (Jvm.ClassFile.FieldType.array Jvm.ClassFile.FieldType.byte))).before args0 about1 = true := code_word (m := ⟨7, 2⟩) (meth := k7m2) (c := k7c2) (by decide +kernel) rfl rfl rfl (by decide +kernel)
set_option maxRecDepth 65536 in
theorem w_c28 : (Jvm.Cond.code ({ cls := "java/lang/String", name := "encodeASCII", desc := "(B[B)[B" } : Jvm.MethodName) jdk_42_method_24_code (7 : Nat) (Option.some (Jvm.ClassFile.FieldType.array Jvm.ClassFile.FieldType.byte))).before args0 about1 = true := code_word (m := ⟨7, 3⟩) (meth := k7m3) (c := k7c3) (by decide +kernel) rfl rfl rfl (by decide +kernel)
set_option maxRecDepth 65536 in
theorem w_c29 : (Jvm.Cond.code ({ cls := "java/lang/StringCoding", name := "countPositives", desc := "([BII)I" } : Jvm.MethodName) jdk_123_method_3_code (5 : Nat) (Option.some Jvm.ClassFile.FieldType.int)).before args0 about1 = true := code_word (m := ⟨22, 1⟩) (meth := k22m1) (c := k22c1) (by decide +kernel) rfl rfl rfl (by decide +kernel)
set_option maxRecDepth 65536 in
theorem w_c30 : (Jvm.Cond.code ({ cls := "java/lang/StringUTF16", name := "compress", desc := "([CII)[B" } : Jvm.MethodName) jdk_52_method_16_code (6 : Nat) (Option.some (Jvm.ClassFile.FieldType.array Jvm.ClassFile.FieldType.byte))).before args0 about1 = true := code_word (m := ⟨24, 2⟩) (meth := k24m2) (c := k24c2) (by decide +kernel) rfl rfl rfl (by decide +kernel)
set_option maxRecDepth 65536 in
theorem w_c31 : (Jvm.Cond.code ({ cls := "java/lang/StringUTF16", name := "compress", desc := "([CI[BII)I" } : Jvm.MethodName) jdk_52_method_21_code (7 : Nat) (Option.some Jvm.ClassFile.FieldType.int)).before args0 about1 = true := code_word (m := ⟨24, 3⟩) (meth := k24m3) (c := k24c3) (by decide +kernel) rfl rfl rfl (by decide +kernel)
set_option maxRecDepth 65536 in
theorem w_c32 : (Jvm.Cond.code ({ cls := "java/lang/StringUTF16", name := "coderFromArrayLen", desc := "([BI)B" } : Jvm.MethodName) jdk_52_method_15_code (2 : Nat) (Option.some Jvm.ClassFile.FieldType.byte)).before args0 about1 = true := code_word (m := ⟨24, 1⟩) (meth := k24m1) (c := k24c1) (by decide +kernel) rfl rfl rfl (by decide +kernel)
def codes1 : List Jvm.Cond := [Jvm.Cond.code x code maxLocals ret, Jvm.Cond.code ({ cls := "java/lang/String", name := "<init>", desc := "([C)V" } : Jvm.MethodName) jdk_42_method_3_code (2 : Nat) (Option.none : Option Jvm.ClassFile.FieldType), Jvm.Cond.code ({ cls := "java/lang/String", name := "<init>", desc := "([CIILjava/lang/Void;)V" } : Jvm.MethodName) jdk_42_method_149_code (6 : Nat) (Option.none : Option Jvm.ClassFile.FieldType), Jvm.Cond.code ({ cls := "java/lang/Object", name := "<init>", desc := "()V" } : Jvm.MethodName) object_method_1_code (1 : Nat) (Option.none : Option Jvm.ClassFile.FieldType), Jvm.Cond.code ({ cls := "com/example/holdtube/holdtube/Seal", name := "line", desc := "(Ljava/lang/String;)[B" } : Jvm.MethodName) prog_22_method_4_code (1 : Nat) (Option.some (Jvm.ClassFile.FieldType.array Jvm.ClassFile.FieldType.byte)), Jvm.Cond.code ({ cls := "java/lang/StringBuilder", name := "<init>", desc := "()V" } : Jvm.MethodName) jdk_67_method_1_code (1 : Nat) (Option.none : Option Jvm.ClassFile.FieldType), Jvm.Cond.code ({ cls := "java/lang/AbstractStringBuilder", name := "<init>", desc := "(I)V" } : Jvm.MethodName) jdk_68_method_2_code (2 : Nat) (Option.none : Option Jvm.ClassFile.FieldType), Jvm.Cond.code ({ cls := "java/lang/StringBuilder", name := "append", desc := "(Ljava/lang/String;)Ljava/lang/StringBuilder;" } : Jvm.MethodName) jdk_67_method_7_code (2 : Nat) (Option.some (Jvm.ClassFile.FieldType.object "java/lang/StringBuilder")), Jvm.Cond.code ({ cls := "java/lang/AbstractStringBuilder", name := "append", desc := "(Ljava/lang/String;)Ljava/lang/AbstractStringBuilder;" } : Jvm.MethodName) jdk_68_method_22_code (3 : Nat) (Option.some (Jvm.ClassFile.FieldType.object "java/lang/AbstractStringBuilder")), Jvm.Cond.code ({ cls := "java/lang/String", name := "length", desc := "()I" } : Jvm.MethodName) jdk_42_method_54_code (1 : Nat) (Option.some Jvm.ClassFile.FieldType.int), Jvm.Cond.code ({ cls := "java/lang/String", name := "coder", desc := "()B" } : Jvm.MethodName) jdk_42_method_152_code (1 : Nat) (Option.some Jvm.ClassFile.FieldType.byte), Jvm.Cond.code ({ cls := "java/lang/AbstractStringBuilder", name := "ensureCapacityInternal", desc := "(I)V" } : Jvm.MethodName) jdk_68_method_9_code (3 : Nat) (Option.none : Option Jvm.ClassFile.FieldType), Jvm.Cond.code ({ cls := "java/lang/AbstractStringBuilder", name := "putStringAt", desc := "(ILjava/lang/String;)V" } : Jvm.MethodName) jdk_68_method_73_code (3 : Nat) (Option.none : Option Jvm.ClassFile.FieldType), Jvm.Cond.code ({ cls := "java/lang/AbstractStringBuilder", name := "inflateIfNeededFor", desc := "(Ljava/lang/String;)V" } : Jvm.MethodName) jdk_68_method_71_code (2 : Nat) (Option.none : Option Jvm.ClassFile.FieldType), Jvm.Cond.code ({ cls := "java/lang/String", name := "getBytes", desc := "([BIB)V" } : Jvm.MethodName) jdk_42_method_147_code (4 : Nat) (Option.none : Option Jvm.ClassFile.FieldType), Jvm.Cond.code ({ cls := "java/lang/StringBuilder", name := "toString", desc := "()Ljava/lang/String;" } : Jvm.MethodName) jdk_67_method_42_code (1 : Nat) (Option.some (Jvm.ClassFile.FieldType.object "java/lang/String")), Jvm.Cond.code ({ cls := "java/lang/String", name := "<init>", desc := "(Ljava/lang/StringBuilder;)V" } : Jvm.MethodName) jdk_42_method_53_code (2 : Nat) (Option.none : Option Jvm.ClassFile.FieldType), Jvm.Cond.code ({ cls := "java/lang/String", name := "<init>", desc := "(Ljava/lang/AbstractStringBuilder;Ljava/lang/Void;)V" } : Jvm.MethodName) jdk_42_method_150_code (5 : Nat) (Option.none : Option Jvm.ClassFile.FieldType), Jvm.Cond.code ({ cls := "java/lang/AbstractStringBuilder", name := "getValue", desc := "()[B" } : Jvm.MethodName) jdk_68_method_64_code (1 : Nat) (Option.some (Jvm.ClassFile.FieldType.array Jvm.ClassFile.FieldType.byte)), Jvm.Cond.code ({ cls := "java/lang/StringBuilder", name := "length", desc := "()I" } : Jvm.MethodName) jdk_67_method_93_code (1 : Nat) (Option.some Jvm.ClassFile.FieldType.int), Jvm.Cond.code ({ cls := "java/lang/AbstractStringBuilder", name := "length", desc := "()I" } : Jvm.MethodName) jdk_68_method_6_code (1 : Nat) (Option.some Jvm.ClassFile.FieldType.int), Jvm.Cond.code ({ cls := "java/lang/AbstractStringBuilder", name := "isLatin1", desc := "()Z" } : Jvm.MethodName) jdk_68_method_68_code (1 : Nat) (Option.some Jvm.ClassFile.FieldType.boolean), Jvm.Cond.code ({ cls := "java/util/Arrays", name := "copyOfRange", desc := "([BII)[B" } : Jvm.MethodName) jdk_65_method_132_code (3 : Nat) (Option.some (Jvm.ClassFile.FieldType.array Jvm.ClassFile.FieldType.byte)), Jvm.Cond.code ({ cls := "java/util/Arrays", name := "copyOfRangeByte", desc := "([BII)[B" } : Jvm.MethodName) jdk_65_method_133_code (5 : Nat) (Option.some (Jvm.ClassFile.FieldType.array Jvm.ClassFile.FieldType.byte)), Jvm.Cond.code ({ cls := "java/util/Arrays", name := "checkLength", desc := "(II)V" } : Jvm.MethodName) jdk_65_method_131_code (2 : Nat) (Option.none : Option Jvm.ClassFile.FieldType), Jvm.Cond.code ({ cls := "java/lang/Math", name := "min", desc := "(II)I" } : Jvm.MethodName) jdk_29_method_69_code (2 : Nat) (Option.some Jvm.ClassFile.FieldType.int), Jvm.Cond.code ({ cls := "java/lang/String", name := "getBytes", desc := "(Ljava/nio/charset/Charset;)[B" } : Jvm.MethodName) jdk_42_method_64_code (2 : Nat) (Option.some (Jvm.ClassFile.FieldType.array Jvm.ClassFile.FieldType.byte)), Jvm.Cond.code ({ cls := "java/lang/String", name := "encode", desc := "(Ljava/nio/charset/Charset;B[B)[B" } : Jvm.MethodName) jdk_42_method_18_code (3 : Nat) (Option.some (Jvm.ClassFile.FieldType.array Jvm.ClassFile.FieldType.byte)), Jvm.Cond.code ({ cls := "java/lang/String", name := "encodeASCII", desc := "(B[B)[B" } : Jvm.MethodName) jdk_42_method_24_code (7 : Nat) (Option.some (Jvm.ClassFile.FieldType.array Jvm.ClassFile.FieldType.byte)), Jvm.Cond.code ({ cls := "java/lang/StringCoding", name := "countPositives", desc := "([BII)I" } : Jvm.MethodName) jdk_123_method_3_code (5 : Nat) (Option.some Jvm.ClassFile.FieldType.int), Jvm.Cond.code ({ cls := "java/lang/StringUTF16", name := "compress", desc := "([CII)[B" } : Jvm.MethodName) jdk_52_method_16_code (6 : Nat) (Option.some (Jvm.ClassFile.FieldType.array Jvm.ClassFile.FieldType.byte)), Jvm.Cond.code ({ cls := "java/lang/StringUTF16", name := "compress", desc := "([CI[BII)I" } : Jvm.MethodName) jdk_52_method_21_code (7 : Nat) (Option.some Jvm.ClassFile.FieldType.int), Jvm.Cond.code ({ cls := "java/lang/StringUTF16", name := "coderFromArrayLen", desc := "([BI)B" } : Jvm.MethodName) jdk_52_method_15_code (2 : Nat) (Option.some Jvm.ClassFile.FieldType.byte)]
set_option maxRecDepth 65536 in
theorem codes_eq : words1.filter isCode = codes1 := rfl
theorem w_codes : ∀ c ∈ words1.filter isCode, c.before args0 about1 = true := by
  rw [codes_eq]
  intro c hc
  simp only [codes1, List.mem_cons, List.not_mem_nil, or_false] at hc
  rcases hc with rfl | rfl | rfl | rfl | rfl | rfl | rfl | rfl | rfl | rfl | rfl | rfl | rfl | rfl | rfl | rfl | rfl | rfl | rfl | rfl | rfl | rfl | rfl | rfl | rfl | rfl | rfl | rfl | rfl | rfl | rfl | rfl | rfl
  · exact w_c0
  · exact w_c1
  · exact w_c2
  · exact w_c3
  · exact w_c4
  · exact w_c5
  · exact w_c6
  · exact w_c7
  · exact w_c8
  · exact w_c9
  · exact w_c10
  · exact w_c11
  · exact w_c12
  · exact w_c13
  · exact w_c14
  · exact w_c15
  · exact w_c16
  · exact w_c17
  · exact w_c18
  · exact w_c19
  · exact w_c20
  · exact w_c21
  · exact w_c22
  · exact w_c23
  · exact w_c24
  · exact w_c25
  · exact w_c26
  · exact w_c27
  · exact w_c28
  · exact w_c29
  · exact w_c30
  · exact w_c31
  · exact w_c32
set_option maxRecDepth 65536 in
theorem w_t1 : (words1.take 24).all (fun c => isCode c || c.before args0 about1) = true := by decide +kernel
set_option maxRecDepth 65536 in
theorem w_t2 : ((words1.drop 24).take 24).all (fun c => isCode c || c.before args0 about1) = true := by decide +kernel
set_option maxRecDepth 65536 in
theorem w_t3 : (((words1.drop 24).drop 24).take 24).all (fun c => isCode c || c.before args0 about1) = true := by decide +kernel
set_option maxRecDepth 65536 in
theorem w_t4 : ((((words1.drop 24).drop 24).drop 24).take 24).all (fun c => isCode c || c.before args0 about1) = true := by decide +kernel
set_option maxRecDepth 65536 in
theorem w_t5 : (((((words1.drop 24).drop 24).drop 24).drop 24).take 24).all (fun c => isCode c || c.before args0 about1) = true := by decide +kernel
set_option maxRecDepth 65536 in
theorem w_t6 : ((((((words1.drop 24).drop 24).drop 24).drop 24).drop 24).take 24).all (fun c => isCode c || c.before args0 about1) = true := by decide +kernel
set_option maxRecDepth 65536 in
theorem w_t7 : (((((((words1.drop 24).drop 24).drop 24).drop 24).drop 24).drop 24).take 24).all (fun c => isCode c || c.before args0 about1) = true := by decide +kernel
set_option maxRecDepth 65536 in
theorem w_t8 : (((((((words1.drop 24).drop 24).drop 24).drop 24).drop 24).drop 24).drop 24).all (fun c => isCode c || c.before args0 about1) = true := by decide +kernel
theorem w_tables : (allAtoms (Jvm.Cond.code x code maxLocals ret :: tables_1)).before args0 about1 = true := by
  rw [allAtoms_all]
  show words1.all (fun c => c.before args0 about1) = true
  refine all_split ?_ w_codes
  rw [← List.take_append_drop 24 words1, List.all_append, w_t1, ← List.take_append_drop 24 (words1.drop 24), List.all_append, w_t2, ← List.take_append_drop 24 ((words1.drop 24).drop 24), List.all_append, w_t3, ← List.take_append_drop 24 (((words1.drop 24).drop 24).drop 24), List.all_append, w_t4, ← List.take_append_drop 24 ((((words1.drop 24).drop 24).drop 24).drop 24), List.all_append, w_t5, ← List.take_append_drop 24 (((((words1.drop 24).drop 24).drop 24).drop 24).drop 24), List.all_append, w_t6, ← List.take_append_drop 24 ((((((words1.drop 24).drop 24).drop 24).drop 24).drop 24).drop 24), List.all_append, w_t7, w_t8]
  rfl
set_option maxRecDepth 65536 in
theorem w_rest : rest_1_c.before args0 about1 = true := by decide +kernel
set_option maxRecDepth 65536 in
theorem w_case : (Jvm.Cond.and given_1 narrow_1).before args0 about1 = true := by decide +kernel
set_option maxRecDepth 65536 in
theorem w_consts : constsHeld consts_1 about1 := Jvm.Lit.constsHeldB_iff.mp (by decide +kernel)
theorem w_applies : (headSpec (Jvm.Cond.code x code maxLocals ret :: tables_1) room_1).applies x e0.platform about1 = true :=
  (Spec.applies_iff w_frames).mpr ⟨w_running, w_runnable, w_alone, w_named, w_hears, w_ripe, w_room, w_tables⟩
theorem atStart : AtStart classFile x code maxLocals ret World_1 tables_1 room_1 Calls_1 rest_1 Pre_1 launch0 p0 e0 about1 theMethod args0 below0 :=
  ⟨lists_1, trivial, launch0.admits_env _ _ _, launch0.least_env, fairChoices_fair.cas, fairChoices_fair.clock, w_frames, w_args, w_heap, w_applies, ⟨w_consts, trivial⟩, w_rest, w_case⟩
end start1
theorem witness_1 : WitnessClaimed_1 := ⟨start1.p0, start1.e0, start1.about1, start1.theMethod, start1.args0, start1.below0, start1.atStart⟩
end Jvm.Pilot.@@N@@
