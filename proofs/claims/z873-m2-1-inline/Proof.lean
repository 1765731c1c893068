import JvmDerived
import JvmDerived.Pilot.@@N@@Statement
import JvmDerived.Pilot.@@N@@Code
set_option linter.unusedVariables false
set_option linter.unusedSimpArgs false
namespace Jvm.RoadKit
open Sem ClassFile Op Lib Jvm.Stand Jvm.Free Jvm.LawKit
section New
variable {p : Program} {l : Launch} {e : Env} {R : Room} {s : State} {m : MethodId} {args : Array Value} {below : List Frame} {meth : Method} {c : Code} {T : State} {locs : List Loc} {cells slots : Nat}
theorem retI (X : Stand p l e R s m args below meth c T locs cells slots) (hx : p.tables.exec = Jvm.exec) {pc : Nat} {Ls : Array Slot} {z : Int32} {rest : List Value} (hret : meth.sig.returnType = some .int) (hd : decode c.code pc = .ok (.ireturn, 1)) {fs : List Frame}
    (hl : ∀ (f : JFrame) (acts : List Action), f.method = m → f.locked = none → f.entered = [] → (doReturn e (T.setTop f) acts (some (.int z))).1 = T.setFrames fs) : Steps p.tables e below (T.setTop (mkF m pc Ls (.int z :: rest))) (T.setFrames fs) := by
  have hm' : T.vm.method? m = some meth := X.method'
  have hn : narrow .int (.int z) = .int z := rfl
  show Steps p.tables e below (T.setTop { method := m, pc := pc, locals := Ls, stack := _ :: rest, locked := none }) _
  jvm_step X.here [X.here.top, hx, hd, hm', hret, hn]
  first | (intro acts; rw [hl _ acts rfl rfl rfl]) | rw [hl _ _ rfl rfl rfl]
  exact Steps.refl _
end New
end Jvm.RoadKit
/- laws to paste: Road.backV, Road.eqW (cut by pick.py; bodies as the Statement names them) -/
namespace Jvm.Pilot.@@N@@
namespace StrChars
open Jvm Sem ClassFile Op Lib Jvm.Stand Jvm.Free.XT Jvm.Free.ALB Jvm.Free.JM Jvm.Free
open Jvm.Lib.Cold (StaticIs)
/-- a char array whose places are chars -/
def Ch (a : Addr) (A : Cell) (U : State) : Prop := Arr .char a A U ∧ Typed .char A
theorem Ch.mv {a : Addr} {A : Cell} {U U' : State} (h : Ch a A U) (hal : U.vm.Alike U'.vm) (hh : U'.heap = U.heap) : Ch a A U' := ⟨h.1.mv hal hh, h.2⟩
theorem Ch.keep {a : Addr} {A : Cell} {U U' : State} (h : Ch a A U) (hal : U.vm.Alike U'.vm) (hk : U'.heap[a]? = some A) : Ch a A U' := ⟨h.1.keep hal hk, h.2⟩
/-- what place i of a char[]'s cell holds -/
def cv (A : Cell) (i : Nat) : Int32 := match A.slots[i]? with | some (.int x) => x | _ => 0
theorem Ch.get {a : Addr} {A : Cell} {U : State} (h : Ch a A U) {i : Nat} (hi : i < A.slots.size) : A.slots[i]? = some (.int (cv A i)) := by
  have e := Array.getElem?_eq_getElem hi
  have f := h.2 i _ e
  unfold cv; rw [e]
  generalize A.slots[i] = v at f
  cases v <;> simp [fits] at f ⊢
/-- the byte that i2b leaves of a char -/
def lo8 (x : Int32) : Int32 := x.toInt8.toInt32
theorem fits_lo8 (y : Int32) : fits .byte (.int (lo8 y)) = true := by
  have h1 := y.toInt8.le_toInt
  have h2 := y.toInt8.toInt_lt
  simp only [lo8, fits, Bool.and_eq_true, decide_eq_true_eq, Int32.le_iff_toInt_le, Int8.toInt_toInt32, show (-128 : Int32).toInt = -128 from by decide, show (127 : Int32).toInt = 127 from by decide]
  omega
/-- A' is A but that each place j of lo .. hi - 1 holds f j -/
def Laid (A A' : Cell) (lo hi : Nat) (f : Nat → Value) : Prop := A'.cls = A.cls ∧ A'.vm = A.vm ∧ A'.slots.size = A.slots.size ∧ ∀ i, A'.slots[i]? = if lo ≤ i ∧ i < hi then some (f i) else A.slots[i]?
theorem Laid.zero (A : Cell) (lo : Nat) (f : Nat → Value) : Laid A A lo (lo + 0) f := ⟨rfl, rfl, rfl, fun i => by rw [if_neg (by omega)]⟩
theorem Laid.step {A Ak : Cell} {lo k : Nat} {f : Nat → Value} {v : Value} (h : Laid A Ak lo k f) (hlo : lo ≤ k) (hk : k < Ak.slots.size) (hv : v = f k) : Laid A (Ak.setSlot k v) lo (k + 1) f := by
  refine ⟨h.1, h.2.1, by simpa [Cell.setSlot] using h.2.2.1, fun i => ?_⟩
  by_cases e : k = i
  · subst e; rw [Cell.slots_setSlot_self v hk, if_pos (by omega), hv]
  · rw [Cell.slots_setSlot_ne v e, h.2.2.2 i]
    by_cases q : lo ≤ i ∧ i < k
    · rw [if_pos q, if_pos (by omega)]
    · rw [if_neg q, if_neg (by omega)]
def U16 : String := "java/lang/StringUTF16"
namespace Cmp5
def yN : MethodName := ⟨"java/lang/StringUTF16", "compress", "([CI[BII)I"⟩
abbrev yB : ByteArray := jdk_52_method_21_code
theorem d0 : decode yB 0 = .ok (.iconst 0, 1) := by decide +kernel
theorem d1 : decode yB 1 = .ok (.istore 5, 2) := by decide +kernel
theorem d3 : decode yB 3 = .ok (.iload 5, 2) := by decide +kernel
theorem d5 : decode yB 5 = .ok (.iload 4, 2) := by decide +kernel
theorem d7 : decode yB 7 = .ok (.if_icmp (.ge) 37, 3) := by decide +kernel
theorem d10 : decode yB 10 = .ok (.aload_n 0, 1) := by decide +kernel
theorem d11 : decode yB 11 = .ok (.iload_n 1, 1) := by decide +kernel
theorem d12 : decode yB 12 = .ok (.caload, 1) := by decide +kernel
theorem d13 : decode yB 13 = .ok (.istore 6, 2) := by decide +kernel
theorem d15 : decode yB 15 = .ok (.iload 6, 2) := by decide +kernel
theorem d17 : decode yB 17 = .ok (.sipush 255, 3) := by decide +kernel
theorem d20 : decode yB 20 = .ok (.if_icmp (.le) 6, 3) := by decide +kernel
theorem d26 : decode yB 26 = .ok (.aload_n 2, 1) := by decide +kernel
theorem d27 : decode yB 27 = .ok (.iload_n 3, 1) := by decide +kernel
theorem d28 : decode yB 28 = .ok (.iload 6, 2) := by decide +kernel
theorem d30 : decode yB 30 = .ok (.i2b, 1) := by decide +kernel
theorem d31 : decode yB 31 = .ok (.bastore, 1) := by decide +kernel
theorem d32 : decode yB 32 = .ok (.iinc 1 1, 3) := by decide +kernel
theorem d35 : decode yB 35 = .ok (.iinc 3 1, 3) := by decide +kernel
theorem d38 : decode yB 38 = .ok (.iinc 5 1, 3) := by decide +kernel
theorem d41 : decode yB 41 = .ok (.goto (-38), 3) := by decide +kernel
theorem d44 : decode yB 44 = .ok (.iload 4, 2) := by decide +kernel
theorem d46 : decode yB 46 = .ok (.ireturn, 1) := by decide +kernel
def site : List Cond := []
def tab : Cond := tabOf yN yB 7 (some .int) site
def P (b : Addr) (A : Cell) (d : Addr) (B : Cell) (o q len : Nat) (args : Array Value) (s : State) : Prop := args = #[.ref b, .int (Int32.ofNat o), .ref d, .int (Int32.ofNat q), .int (Int32.ofNat len)] ∧ Ch b A s ∧ Arr .byte d B s ∧ b ≠ d ∧ o + len ≤ A.slots.size ∧ q + len ≤ B.slots.size ∧ ∀ i, i < len → ¬ 255 < cv A (o + i)
def E (b : Addr) (A : Cell) (d : Addr) (B : Cell) (o q len : Nat) (r : Option Value) (s u : State) : Prop := r = some (.int (Int32.ofNat len)) ∧ ∃ B', Put d B' s u ∧ Laid B B' q (q + len) (fun j => Value.int (lo8 (cv A (o + (j - q)))))
/-- no char of the range above 255: len; the places written hold each char's low byte -/
theorem law (l : Launch) (b : Addr) (A : Cell) (d : Addr) (B : Cell) (o q len : Nat) : Law l yN 5 5 0 0 yB 7 (some .int) site (P b A d B o q len) (E b A d B o q len) (copyLocs d q len) 0 0 := by
  refine Law.of_walk (plainFor_of_name (by decide +kernel)) (by decide +kernel) (by decide +kernel) (by decide) (fun _ _ h => by rw [h.1]; rfl) (fun _ U U' hal hh h => ⟨h.1, h.2.1.mv hal hh, h.2.2.1.mv hal hh, h.2.2.2⟩) (fun r U U' V V' h1 hal h2 h => ⟨h.1, h.2.elim fun B' q => ⟨B', q.1.mv h1 h2, q.2⟩⟩) ?_
  intro p e s m args below meth c s₁ X0 hexec hbytes hml hret hlk hnm hown hh0 W hP
  obtain ⟨rfl, hA, hB, hne, l1, l2, hp⟩ := hP
  have c1 : Steps p.tables e below (s₁.setTop (entryFrame m #[.ref b, .int (Int32.ofNat o), .ref d, .int (Int32.ofNat q), .int (Int32.ofNat len)] 7)) (s₁.setTop (mkF m 0 #[.val (.ref b), .val (.int (Int32.ofNat o)), .val (.ref d), .val (.int (Int32.ofNat q)), .val (.int (Int32.ofNat len)), .unset, .unset] [])) := entry rfl
  have hA0 := hA.1.mv X0.warmed.alike hh0
  have hB0 := hB.mv X0.warmed.alike hh0
  have a31 := hA.1.2.2.2
  have c2 : Steps p.tables e below (s₁.setTop (entryFrame m #[.ref b, .int (Int32.ofNat o), .ref d, .int (Int32.ofNat q), .int (Int32.ofNat len)] 7)) (s₁.setTop (mkF m 3 #[.val (.ref b), .val (.int (Int32.ofNat o)), .val (.ref d), .val (.int (Int32.ofNat q)), .val (.int (Int32.ofNat len)), .val (.int 0), .unset] [])) := c1.trans (by
    refine iconstV X0.here hexec rfl 0 (hb hbytes d0) (by decide) ?_
    refine XS.istore X0.here hexec rfl (hb hbytes d1) rfl rfl ?_
    exact Steps.refl _)
  have loop : ∀ (r i : Nat), i + r = len → ∀ (z : Slot), (z = .unset ∨ ∃ w, z = .val w ∧ w.category = 1) → ∀ (Tl : State) (Bk : Cell), Stand p l e { frames := 0, locals := 0, cells := 0, slots := 0 } s m #[.ref b, .int (Int32.ofNat o), .ref d, .int (Int32.ofNat q), .int (Int32.ofNat len)] below meth c Tl ([] ++ copyLocs d q i) 0 0 → Put d Bk s₁ Tl → Laid B Bk q (q + i) (fun j => Value.int (lo8 (cv A (o + (j - q))))) →
      Steps p.tables e below (s₁.setTop (entryFrame m #[.ref b, .int (Int32.ofNat o), .ref d, .int (Int32.ofNat q), .int (Int32.ofNat len)] 7)) (Tl.setTop (mkF m 3 #[.val (.ref b), .val (.int (Int32.ofNat (o + i))), .val (.ref d), .val (.int (Int32.ofNat (q + i))), .val (.int (Int32.ofNat len)), .val (.int (Int32.ofNat i)), z] [])) → ∃ (T' : State) (B' : Cell) (z' : Slot), Stand p l e { frames := 0, locals := 0, cells := 0, slots := 0 } s m #[.ref b, .int (Int32.ofNat o), .ref d, .int (Int32.ofNat q), .int (Int32.ofNat len)] below meth c T' ([] ++ copyLocs d q len) 0 0 ∧ Put d B' s₁ T' ∧ Laid B B' q (q + len) (fun j => Value.int (lo8 (cv A (o + (j - q))))) ∧
      Steps p.tables e below (s₁.setTop (entryFrame m #[.ref b, .int (Int32.ofNat o), .ref d, .int (Int32.ofNat q), .int (Int32.ofNat len)] 7)) (T'.setTop (mkF m 3 #[.val (.ref b), .val (.int (Int32.ofNat (o + len))), .val (.ref d), .val (.int (Int32.ofNat (q + len))), .val (.int (Int32.ofNat len)), .val (.int (Int32.ofNat len)), z'] [])) := by
    intro r
    induction r with
    | zero =>
      intro i hi z hz Tl Bk Xl pl fl cl
      have hil : i = len := by omega
      rw [hil] at Xl fl cl
      exact ⟨Tl, Bk, z, Xl, pl, fl, cl⟩
    | succ r ih =>
      intro i hi z hz Tl Bk Xl pl fl cl
      have all := X0.warmed.alike.symm.trans Xl.warmed.alike
      have hAl := hA0.keep all (pl.other hne hA0.1)
      have hBk := hB0.like all pl.1 fl.1 fl.2.1 fl.2.2.1
      have hlt : q + i < Bk.slots.size := by rw [fl.2.2.1]; omega
      have c3 : Steps p.tables e below (s₁.setTop (entryFrame m #[.ref b, .int (Int32.ofNat o), .ref d, .int (Int32.ofNat q), .int (Int32.ofNat len)] 7)) (Tl.setTop (mkF m 12 #[.val (.ref b), .val (.int (Int32.ofNat (o + i))), .val (.ref d), .val (.int (Int32.ofNat (q + i))), .val (.int (Int32.ofNat len)), .val (.int (Int32.ofNat i)), z] [.int (Int32.ofNat (o + i)), .ref b])) := cl.trans (by
        refine XS.iload Xl.here hexec rfl (hb hbytes d3) rfl ?_
        refine XS.iload Xl.here hexec rfl (hb hbytes d5) rfl ?_
        refine XS.icmpNo Xl.here hexec rfl (hb hbytes d7) rfl (ii_ge_f (lt32 (by omega) (by omega))) ?_
        refine XS.aloadN Xl.here hexec rfl (hb hbytes d10) rfl rfl ?_
        refine XS.iloadN Xl.here hexec rfl (hb hbytes d11) rfl ?_
        exact Steps.refl _)
      have c4 : Steps p.tables e below (s₁.setTop (entryFrame m #[.ref b, .int (Int32.ofNat o), .ref d, .int (Int32.ofNat q), .int (Int32.ofNat len)] 7)) (Tl.setTop (mkF m 13 #[.val (.ref b), .val (.int (Int32.ofNat (o + i))), .val (.ref d), .val (.int (Int32.ofNat (q + i))), .val (.int (Int32.ofNat len)), .val (.int (Int32.ofNat i)), z] [.int (cv A (o + i))])) := c3.trans (by
        refine Xl.aget hexec hAl rfl (hA.get (i := o + i) (by omega)) rfl rfl (hb hbytes d12) ?_
        exact Steps.refl _)
      have c5 : Steps p.tables e below (s₁.setTop (entryFrame m #[.ref b, .int (Int32.ofNat o), .ref d, .int (Int32.ofNat q), .int (Int32.ofNat len)] 7)) (Tl.setTop (mkF m 15 #[.val (.ref b), .val (.int (Int32.ofNat (o + i))), .val (.ref d), .val (.int (Int32.ofNat (q + i))), .val (.int (Int32.ofNat len)), .val (.int (Int32.ofNat i)), .val (.int (cv A (o + i)))] [])) := c4.trans (by
        refine XS.istoreS Xl.here hexec rfl (hb hbytes d13) rfl rfl hz ?_
        exact Steps.refl _)
      have c6 : Steps p.tables e below (s₁.setTop (entryFrame m #[.ref b, .int (Int32.ofNat o), .ref d, .int (Int32.ofNat q), .int (Int32.ofNat len)] 7)) (Tl.setTop (mkF m 31 #[.val (.ref b), .val (.int (Int32.ofNat (o + i))), .val (.ref d), .val (.int (Int32.ofNat (q + i))), .val (.int (Int32.ofNat len)), .val (.int (Int32.ofNat i)), .val (.int (cv A (o + i)))] [.int (lo8 (cv A (o + i))), .int (Int32.ofNat (q + i)), .ref d])) := c5.trans (by
        refine XS.iload Xl.here hexec rfl (hb hbytes d15) rfl ?_
        refine sipushV Xl.here hexec rfl 255 (hb hbytes d17) (by decide) ?_
        refine XS.icmpYes Xl.here hexec rfl (pc0 := 20) rfl (hb hbytes d20) rfl (ii_le_t (hp i (by omega))) (by decide) rfl ?_
        refine XS.aloadN Xl.here hexec rfl (hb hbytes d26) rfl rfl ?_
        refine XS.iloadN Xl.here hexec rfl (hb hbytes d27) rfl ?_
        refine XS.iload Xl.here hexec rfl (hb hbytes d28) rfl ?_
        refine i2b Xl.here hexec rfl (hb hbytes d30) rfl ?_
        exact Steps.refl _)
      obtain ⟨T7, X7, p7, st7⟩ := Xl.aput hexec hBk rfl hlt rfl (fits_lo8 (cv A (o + i))) (g := (mkF m 31 #[.val (.ref b), .val (.int (Int32.ofNat (o + i))), .val (.ref d), .val (.int (Int32.ofNat (q + i))), .val (.int (Int32.ofNat len)), .val (.int (Int32.ofNat i)), .val (.int (cv A (o + i)))] [.int (lo8 (cv A (o + i))), .int (Int32.ofNat (q + i)), .ref d])) rfl (rest := []) rfl (hb hbytes d31)
      have c8 : Steps p.tables e below (s₁.setTop (entryFrame m #[.ref b, .int (Int32.ofNat o), .ref d, .int (Int32.ofNat q), .int (Int32.ofNat len)] 7)) (T7.setTop (mkF m 32 #[.val (.ref b), .val (.int (Int32.ofNat (o + i))), .val (.ref d), .val (.int (Int32.ofNat (q + i))), .val (.int (Int32.ofNat len)), .val (.int (Int32.ofNat i)), .val (.int (cv A (o + i)))] [])) := c6.trans (st7 _ (Steps.refl _))
      have c9 : Steps p.tables e below (s₁.setTop (entryFrame m #[.ref b, .int (Int32.ofNat o), .ref d, .int (Int32.ofNat q), .int (Int32.ofNat len)] 7)) (T7.setTop (mkF m 3 #[.val (.ref b), .val (.int (Int32.ofNat (o + i) + 1)), .val (.ref d), .val (.int (Int32.ofNat (q + i) + 1)), .val (.int (Int32.ofNat len)), .val (.int (Int32.ofNat i + 1)), .val (.int (cv A (o + i)))] [])) := c8.trans (by
        refine iincV X7.here hexec rfl 1 (hb hbytes d32) (by decide) rfl rfl ?_
        refine iincV X7.here hexec rfl 1 (hb hbytes d35) (by decide) rfl rfl ?_
        refine iincV X7.here hexec rfl 1 (hb hbytes d38) (by decide) rfl rfl ?_
        refine XS.goto X7.here hexec rfl (pc0 := 41) rfl (hb hbytes d41) (by decide) rfl ?_
        exact Steps.refl _)
      have c10 : Steps p.tables e below (s₁.setTop (entryFrame m #[.ref b, .int (Int32.ofNat o), .ref d, .int (Int32.ofNat q), .int (Int32.ofNat len)] 7)) (T7.setTop (mkF m 3 #[.val (.ref b), .val (.int (Int32.ofNat (o + (i + 1)))), .val (.ref d), .val (.int (Int32.ofNat (q + (i + 1)))), .val (.int (Int32.ofNat len)), .val (.int (Int32.ofNat (i + 1))), .val (.int (cv A (o + i)))] [])) := by
        have := c9
        rw [succ32, succ32, succ32] at this
        exact this
      exact ih (i + 1) (by omega) _ (Or.inr ⟨_, rfl, rfl⟩) T7 _ (by rw [copyLocs_step, ← List.append_assoc]; exact X7) (pl.trans p7) (fl.step (by omega) hlt (by simp)) c10
  obtain ⟨T9, B9, z9, X9, p9, f9, g9⟩ := loop len 0 (by omega) .unset (Or.inl rfl) s₁ B (by simpa [copyLocs] using X0) ⟨hB0.1, fun _ _ => rfl, rfl⟩ (Laid.zero _ _ _) c2
  have c11 : Steps p.tables e below (s₁.setTop (entryFrame m #[.ref b, .int (Int32.ofNat o), .ref d, .int (Int32.ofNat q), .int (Int32.ofNat len)] 7)) (T9.setTop (mkF m 46 #[.val (.ref b), .val (.int (Int32.ofNat (o + len))), .val (.ref d), .val (.int (Int32.ofNat (q + len))), .val (.int (Int32.ofNat len)), .val (.int (Int32.ofNat len)), z9] [.int (Int32.ofNat len)])) := g9.trans (by
    refine XS.iload X9.here hexec rfl (hb hbytes d3) rfl ?_
    refine XS.iload X9.here hexec rfl (hb hbytes d5) rfl ?_
    refine XS.icmpYes X9.here hexec rfl (pc0 := 7) rfl (hb hbytes d7) rfl (ii_ge_t (nlt32 (by omega) (Nat.le_refl _))) (by decide) rfl ?_
    refine XS.iload X9.here hexec rfl (hb hbytes d44) rfl ?_
    exact Steps.refl _)
  exact ⟨T9, some (.int (Int32.ofNat len)), _, _, _, X9, by simp, rfl, rfl, (fun h => by cases h), ⟨rfl, B9, p9.from hh0, f9⟩, fun fs hl => c11.trans (X9.ireturnOut hexec hret rfl (Or.inl rfl) (hb hbytes d46) hl)⟩
end Cmp5
namespace Cmp3
def yN : MethodName := ⟨"java/lang/StringUTF16", "compress", "([CII)[B"⟩
abbrev yB : ByteArray := jdk_52_method_16_code
theorem d0 : decode yB 0 = .ok (.iload_n 2, 1) := by decide +kernel
theorem d1 : decode yB 1 = .ok (.newarray .byte, 2) := by decide +kernel
theorem d3 : decode yB 3 = .ok (.astore_n 3, 1) := by decide +kernel
theorem d4 : decode yB 4 = .ok (.aload_n 0, 1) := by decide +kernel
theorem d5 : decode yB 5 = .ok (.iload_n 1, 1) := by decide +kernel
theorem d6 : decode yB 6 = .ok (.aload_n 3, 1) := by decide +kernel
theorem d7 : decode yB 7 = .ok (.iconst 0, 1) := by decide +kernel
theorem d8 : decode yB 8 = .ok (.iload_n 2, 1) := by decide +kernel
theorem d9 : decode yB 9 = .ok (.invokestatic 115, 3) := by decide +kernel
theorem d12 : decode yB 12 = .ok (.istore 4, 2) := by decide +kernel
theorem d14 : decode yB 14 = .ok (.iload 4, 2) := by decide +kernel
theorem d16 : decode yB 16 = .ok (.iload_n 2, 1) := by decide +kernel
theorem d17 : decode yB 17 = .ok (.if_icmp (.eq) 40, 3) := by decide +kernel
theorem d57 : decode yB 57 = .ok (.aload_n 3, 1) := by decide +kernel
theorem d58 : decode yB 58 = .ok (.areturn, 1) := by decide +kernel
def site : List Cond := [.arrayClass .byte, Cmp5.tab] ++ staticW U16 115 Cmp5.yN
def tab : Cond := tabOf yN yB 6 (some (.array .byte)) site
def P (b : Addr) (A : Cell) (o len : Nat) (args : Array Value) (s : State) : Prop := args = #[.ref b, .int (Int32.ofNat o), .int (Int32.ofNat len)] ∧ Ch b A s ∧ o + len ≤ A.slots.size ∧ len ≤ 536870912 ∧ ∀ i, i < len → ¬ 255 < cv A (o + i)
def E (b : Addr) (A : Cell) (o len : Nat) (r : Option Value) (s u : State) : Prop := NewArr .byte "[B" len (fun j => .int (lo8 (cv A (o + j)))) r s u ∧ u.heap.size = s.heap.size + 1
/-- no char of the range above 255: a new byte[] of their low bytes -/
theorem law (l : Launch) (b : Addr) (A : Cell) (o len : Nat) : Law l yN 3 3 1 18 yB 6 (some (.array .byte)) site (P b A o len) (E b A o len) [] 1 len := by
  refine Law.of_walk (plainFor_of_name (by decide +kernel)) (by decide +kernel) (by decide +kernel) (by decide) (fun _ _ h => by rw [h.1]; rfl) (fun _ U U' hal hh h => ⟨h.1, h.2.1.mv hal hh, h.2.2⟩) (fun r U U' V V' h1 hal h2 h => ⟨NewArr.mv r U U' V V' h1 hal h2 h.1, by rw [h1, h2]; exact h.2⟩) ?_
  intro p e s m args below meth c s₁ X0 hexec hbytes hml hret hlk hnm hown hh0 W hP
  obtain ⟨rfl, hA, l1, l2, hp⟩ := hP
  have a31 := hA.1.2.2.2
  have c1 : Steps p.tables e below (s₁.setTop (entryFrame m #[.ref b, .int (Int32.ofNat o), .int (Int32.ofNat len)] 6)) (s₁.setTop (mkF m 0 #[.val (.ref b), .val (.int (Int32.ofNat o)), .val (.int (Int32.ofNat len)), .unset, .unset, .unset] [])) := entry rfl
  have c2 : Steps p.tables e below (s₁.setTop (entryFrame m #[.ref b, .int (Int32.ofNat o), .int (Int32.ofNat len)] 6)) (s₁.setTop (mkF m 1 #[.val (.ref b), .val (.int (Int32.ofNat o)), .val (.int (Int32.ofNat len)), .unset, .unset, .unset] [.int (Int32.ofNat len)])) := c1.trans (by
    refine XS.iloadN X0.here hexec rfl (hb hbytes d0) rfl ?_
    exact Steps.refl _)
  obtain ⟨T3, B3, X3, ba3, bs3, bv3, bh3, bf3, st3⟩ := X0.anew hexec (atype := .byte) (wk W (.arrayClass .byte)) rfl (by show len * 1 ≤ _; omega) (by omega) (g := (mkF m 1 #[.val (.ref b), .val (.int (Int32.ofNat o)), .val (.int (Int32.ofNat len)), .unset, .unset, .unset] [.int (Int32.ofNat len)])) rfl (hb hbytes d1) (rest := []) rfl (Nat.le_refl _) (by show 0 + len ≤ len; omega)
  rw [hh0] at ba3 st3
  have kp3 : XT.Kept s T3 := (XT.Kept.of_eq hh0).push bh3
  have hA3 := hA.keep X3.warmed.alike (kp3 _ _ hA.1.1)
  have hne : b ≠ s.heap.size := hA.1.ne
  have c4 : Steps p.tables e below (s₁.setTop (entryFrame m #[.ref b, .int (Int32.ofNat o), .int (Int32.ofNat len)] 6)) (T3.setTop (mkF m 3 #[.val (.ref b), .val (.int (Int32.ofNat o)), .val (.int (Int32.ofNat len)), .unset, .unset, .unset] [.ref s.heap.size])) := c2.trans (st3 _ (Steps.refl _))
  have c5 : Steps p.tables e below (s₁.setTop (entryFrame m #[.ref b, .int (Int32.ofNat o), .int (Int32.ofNat len)] 6)) (T3.setTop (mkF m 9 #[.val (.ref b), .val (.int (Int32.ofNat o)), .val (.int (Int32.ofNat len)), .val (.ref s.heap.size), .unset, .unset] [.int (Int32.ofNat len), .int 0, .ref s.heap.size, .int (Int32.ofNat o), .ref b])) := c4.trans (by
    refine XS.astoreN X3.here hexec rfl (hb hbytes d3) rfl rfl rfl ?_
    refine XS.aloadN X3.here hexec rfl (hb hbytes d4) rfl rfl ?_
    refine XS.iloadN X3.here hexec rfl (hb hbytes d5) rfl ?_
    refine XS.aloadN X3.here hexec rfl (hb hbytes d6) rfl rfl ?_
    refine iconstV X3.here hexec rfl 0 (hb hbytes d7) (by decide) ?_
    refine XS.iloadN X3.here hexec rfl (hb hbytes d8) rfl ?_
    exact Steps.refl _)
  obtain ⟨v6, T6, X6, E6, g6⟩ := X3.callS hexec (Cmp5.law l b A s.heap.size B3 o 0 len) hown (wks W (staticW U16 115 Cmp5.yN)) (wk W Cmp5.tab) (W := 0) (Nat.le_of_ble_eq_true rfl) (Nat.le_of_ble_eq_true rfl) (Nat.le_refl _) (by show 0 + len + 0 ≤ len; omega) (g := (mkF m 9 #[.val (.ref b), .val (.int (Int32.ofNat o)), .val (.int (Int32.ofNat len)), .val (.ref s.heap.size), .unset, .unset] [.int (Int32.ofNat len), .int (Int32.ofNat 0), .ref s.heap.size, .int (Int32.ofNat o), .ref b])) rfl (by rw [hml]; rfl) c5 (argsL := [.ref b, .int (Int32.ofNat o), .ref s.heap.size, .int (Int32.ofNat 0), .int (Int32.ofNat len)]) (rest := []) rfl rfl (by show 2 * 0 + 0 ≤ _; decide) (hb hbytes d9) (⟨rfl, hA3, ba3, hne, l1, by rw [bs3]; simp, hp⟩)
  obtain ⟨rfl, B6, p6, f6⟩ := E6
  have c7 : Steps p.tables e below (s₁.setTop (entryFrame m #[.ref b, .int (Int32.ofNat o), .int (Int32.ofNat len)] 6)) (T6.setTop (mkF m 12 #[.val (.ref b), .val (.int (Int32.ofNat o)), .val (.int (Int32.ofNat len)), .val (.ref s.heap.size), .unset, .unset] [.int (Int32.ofNat len)])) := g6
  have c8 : Steps p.tables e below (s₁.setTop (entryFrame m #[.ref b, .int (Int32.ofNat o), .int (Int32.ofNat len)] 6)) (T6.setTop (mkF m 58 #[.val (.ref b), .val (.int (Int32.ofNat o)), .val (.int (Int32.ofNat len)), .val (.ref s.heap.size), .val (.int (Int32.ofNat len)), .unset] [.ref s.heap.size])) := c7.trans (by
    refine XS.istore X6.here hexec rfl (hb hbytes d12) rfl rfl ?_
    refine XS.iload X6.here hexec rfl (hb hbytes d14) rfl ?_
    refine XS.iloadN X6.here hexec rfl (hb hbytes d16) rfl ?_
    refine XS.icmpYes X6.here hexec rfl (pc0 := 17) rfl (hb hbytes d17) rfl (ii_eq_t rfl) (by decide) rfl ?_
    refine XS.aloadN X6.here hexec rfl (hb hbytes d57) rfl rfl ?_
    exact Steps.refl _)
  have X8 := X6.wide (L' := []) (cells' := 1) (slots' := len) (fun x hx hlt => by
    simp only [List.nil_append, copyLocs, List.mem_map, List.mem_range] at hx
    obtain ⟨i, -, rfl⟩ := hx
    exact absurd hlt (Nat.lt_irrefl _)) (Nat.le_refl _) (by omega)
  exact ⟨T6, some (.ref s.heap.size), _, _, _, X8, rfl, rfl, rfl, (fun h => by cases h), ⟨⟨rfl, B6, ba3.like (X3.warmed.alike.symm.trans X6.warmed.alike) p6.1 f6.1 f6.2.1 f6.2.2.1, f6.2.1.trans bv3, by rw [X6.warmed.alike.findClass, f6.1]; exact bf3, by rw [f6.2.2.1, bs3]; simp, fun j hj => by rw [f6.2.2.2 j, if_pos (by omega)]; rfl, kp3.put p6 (Nat.le_refl _)⟩, by rw [p6.2.2, bh3, hh0]; simp⟩, fun fs hl => c8.trans (X8.areturnOut hexec rfl hret rfl (hb hbytes d58) hl)⟩
end Cmp3
namespace CodL
def yN : MethodName := ⟨"java/lang/StringUTF16", "coderFromArrayLen", "([BI)B"⟩
abbrev yB : ByteArray := jdk_52_method_15_code
theorem d0 : decode yB 0 = .ok (.iload_n 1, 1) := by decide +kernel
theorem d1 : decode yB 1 = .ok (.aload_n 0, 1) := by decide +kernel
theorem d2 : decode yB 2 = .ok (.arraylength, 1) := by decide +kernel
theorem d3 : decode yB 3 = .ok (.isub, 1) := by decide +kernel
theorem d4 : decode yB 4 = .ok (.bipush 31, 2) := by decide +kernel
theorem d6 : decode yB 6 = .ok (.iushr, 1) := by decide +kernel
theorem d7 : decode yB 7 = .ok (.i2b, 1) := by decide +kernel
theorem d8 : decode yB 8 = .ok (.ireturn, 1) := by decide +kernel
def site : List Cond := []
def tab : Cond := tabOf yN yB 2 (some .byte) site
def P (d : Addr) (B : Cell) (args : Array Value) (s : State) : Prop := args = #[.ref d, .int (Int32.ofNat B.slots.size)] ∧ Arr .byte d B s
def E (r : Option Value) (s u : State) : Prop := XT.PureE (some (.int 0)) r s u
/-- an array as long as the number of chars: LATIN1 -/
theorem law (l : Launch) (d : Addr) (B : Cell) : Law l yN 2 2 0 0 yB 2 (some .byte) site (P d B) E [] 0 0 := by
  refine Law.of_walk (plainFor_of_name (by decide +kernel)) (by decide +kernel) (by decide +kernel) (by decide) (fun _ _ h => by rw [h.1]; rfl) (fun _ U U' hal hh h => ⟨h.1, h.2.mv hal hh⟩) (fun r U U' V V' h1 hal h2 h => XT.PureE.mv r U U' V V' h1 hal h2 h) ?_
  intro p e s m args below meth c s₁ X0 hexec hbytes hml hret hlk hnm hown hh0 W hP
  obtain ⟨rfl, hB⟩ := hP
  have hB0 := hB.mv X0.warmed.alike hh0
  have c1 : Steps p.tables e below (s₁.setTop (entryFrame m #[.ref d, .int (Int32.ofNat B.slots.size)] 2)) (s₁.setTop (mkF m 0 #[.val (.ref d), .val (.int (Int32.ofNat B.slots.size))] [])) := entry rfl
  have c2 : Steps p.tables e below (s₁.setTop (entryFrame m #[.ref d, .int (Int32.ofNat B.slots.size)] 2)) (s₁.setTop (mkF m 2 #[.val (.ref d), .val (.int (Int32.ofNat B.slots.size))] [.ref d, .int (Int32.ofNat B.slots.size)])) := c1.trans (by
    refine XS.iloadN X0.here hexec rfl (hb hbytes d0) rfl ?_
    refine XS.aloadN X0.here hexec rfl (hb hbytes d1) rfl rfl ?_
    exact Steps.refl _)
  have c3 : Steps p.tables e below (s₁.setTop (entryFrame m #[.ref d, .int (Int32.ofNat B.slots.size)] 2)) (s₁.setTop (mkF m 8 #[.val (.ref d), .val (.int (Int32.ofNat B.slots.size))] [.int (lo8 (ushr (Int32.ofNat B.slots.size - Int32.ofNat B.slots.size) 31))])) := c2.trans (by
    refine X0.alen hexec hB0 rfl rfl (hb hbytes d2) ?_
    refine XS.isub X0.here hexec rfl (hb hbytes d3) rfl ?_
    refine bipushV X0.here hexec rfl 31 (hb hbytes d4) (by decide) ?_
    refine iushr X0.here hexec rfl (hb hbytes d6) rfl ?_
    refine i2b X0.here hexec rfl (hb hbytes d7) rfl ?_
    exact Steps.refl _)
  have e0 : lo8 (ushr (Int32.ofNat B.slots.size - Int32.ofNat B.slots.size) 31) = 0 := by rw [Int32.sub_self]; decide
  rw [e0] at c3
  exact ⟨s₁, some (.int 0), _, _, _, X0, rfl, rfl, rfl, (fun h => by cases h), ⟨rfl, hh0⟩, fun fs hl => c3.trans (X0.ireturnOut hexec hret rfl (Or.inr (Or.inr (Or.inl rfl))) (hb hbytes d8) hl)⟩
end CodL
/-- the String at a is Latin-1 over a new byte[] (the heap's one new cell): the low bytes of the len chars of A from o on; every cell but a is kept -/
def Got (a : Addr) (D : Cell) (fV fC : Field) (A : Cell) (o len : Nat) (r : Option Value) (s u : State) : Prop := r = none ∧ ∃ D' V : Cell, Blank "java/lang/String" a D' u ∧ Same D D' [fV.slot, fC.slot] ∧ D'.slots[fV.slot]? = some (.ref s.heap.size) ∧ D'.slots[fC.slot]? = some (.int 0) ∧ Arr .byte s.heap.size V u ∧ V.vm = .none ∧ u.vm.findClass "[B" = some V.cls ∧ V.slots.size = len ∧ (∀ j, j < len → V.slots[j]? = some (.int (lo8 (cv A (o + j))))) ∧ (∀ (y : Addr) (c : Cell), y ≠ a → s.heap[y]? = some c → u.heap[y]? = some c) ∧ u.heap.size = s.heap.size + 1
theorem Got.mv {a : Addr} {D A : Cell} {fV fC : Field} {o len : Nat} : ∀ r (U U' V V' : State), U'.heap = U.heap → V.vm.Alike V'.vm → V'.heap = V.heap → Got a D fV fC A o len r U V → Got a D fV fC A o len r U' V' :=
  fun r U U' V V' h1 hal h2 ⟨e0, D', X, a1, a2, a3, a4, a5, a6, a7, a8, a9, a10, a11⟩ => ⟨e0, D', X, a1.mv hal h2, a2, by rw [h1]; exact a3, a4, by rw [h1]; exact a5.mv hal h2, a6, by rw [hal.findClass]; exact a7, a8, a9, by rw [h1, h2]; exact a10, by rw [h1, h2]; exact a11⟩
namespace New4
def yN : MethodName := ⟨"java/lang/String", "<init>", "([CIILjava/lang/Void;)V"⟩
abbrev yB : ByteArray := jdk_42_method_149_code
theorem d0 : decode yB 0 = .ok (.aload_n 0, 1) := by decide +kernel
theorem d1 : decode yB 1 = .ok (.invokespecial 1, 3) := by decide +kernel
theorem d4 : decode yB 4 = .ok (.iload_n 3, 1) := by decide +kernel
theorem d5 : decode yB 5 = .ok (.ifCond (.ne) 22, 3) := by decide +kernel
theorem d27 : decode yB 27 = .ok (.getstatic 38, 3) := by decide +kernel
theorem d30 : decode yB 30 = .ok (.ifCond (.eq) 28, 3) := by decide +kernel
theorem d33 : decode yB 33 = .ok (.aload_n 1, 1) := by decide +kernel
theorem d34 : decode yB 34 = .ok (.iload_n 2, 1) := by decide +kernel
theorem d35 : decode yB 35 = .ok (.iload_n 3, 1) := by decide +kernel
theorem d36 : decode yB 36 = .ok (.invokestatic 177, 3) := by decide +kernel
theorem d39 : decode yB 39 = .ok (.astore 5, 2) := by decide +kernel
theorem d41 : decode yB 41 = .ok (.aload_n 0, 1) := by decide +kernel
theorem d42 : decode yB 42 = .ok (.aload 5, 2) := by decide +kernel
theorem d44 : decode yB 44 = .ok (.iload_n 3, 1) := by decide +kernel
theorem d45 : decode yB 45 = .ok (.invokestatic 47, 3) := by decide +kernel
theorem d48 : decode yB 48 = .ok (.putfield 15, 3) := by decide +kernel
theorem d51 : decode yB 51 = .ok (.aload_n 0, 1) := by decide +kernel
theorem d52 : decode yB 52 = .ok (.aload 5, 2) := by decide +kernel
theorem d54 : decode yB 54 = .ok (.putfield 9, 3) := by decide +kernel
theorem d57 : decode yB 57 = .ok (.return_, 1) := by decide +kernel
def site : List Cond := [.fieldLink "java/lang/String" 38 "java/lang/String" "COMPACT_STRINGS" "Z", Cmp3.tab, CodL.tab, .laysFinal "java/lang/String" "java/lang/String" "value" "[B", .fieldLink "java/lang/String" 9 "java/lang/String" "value" "[B", .laysFinal "java/lang/String" "java/lang/String" "coder" "B", .fieldLink "java/lang/String" 15 "java/lang/String" "coder" "B"] ++ objW "java/lang/String" 1 ++ staticW "java/lang/String" 177 Cmp3.yN ++ staticW "java/lang/String" 47 CodL.yN
def tab : Cond := tabOf yN yB 6 none site
def P (a : Addr) (D : Cell) (fV fC : Field) (b : Addr) (A : Cell) (z : Int32) (o len : Nat) (args : Array Value) (s : State) : Prop := args = #[.ref a, .ref b, .int (Int32.ofNat o), .int (Int32.ofNat len), .null] ∧ Blank "java/lang/String" a D s ∧ Found "java/lang/String" "value" "[B" fV s ∧ Found "java/lang/String" "coder" "B" fC s ∧ Ch b A s ∧ StaticIs s "java/lang/String" "COMPACT_STRINGS" "Z" (.int z) ∧ ¬ z = 0 ∧ 0 < len ∧ o + len ≤ A.slots.size ∧ len ≤ 536870912 ∧ ∀ i, i < len → ¬ 255 < cv A (o + i)
def E (a : Addr) (D : Cell) (fV fC : Field) (A : Cell) (o len : Nat) (r : Option Value) (s u : State) : Prop := Got a D fV fC A o len r s u
/-- len > 0, no char of the range above 255: a Latin-1 String of their low bytes -/
theorem law (l : Launch) (a : Addr) (D : Cell) (fV fC : Field) (b : Addr) (A : Cell) (z : Int32) (o len : Nat) : Law l yN 5 4 2 35 yB 6 none site (P a D fV fC b A z o len) (E a D fV fC A o len) [⟨a, fC.slot⟩, ⟨a, fV.slot⟩] 1 len := by
  refine Law.of_walk (plainFor_of_name (by decide +kernel)) (by decide +kernel) (by decide +kernel) (by decide) (fun _ _ h => by rw [h.1]; rfl) (fun _ U U' hal hh h => ⟨h.1, h.2.1.mv hal hh, h.2.2.1.al hal, h.2.2.2.1.al hal, h.2.2.2.2.1.mv hal hh, h.2.2.2.2.2.1.there hal hh, h.2.2.2.2.2.2⟩) (fun r U U' V V' h1 hal h2 h => Got.mv r U U' V V' h1 hal h2 h) ?_
  intro p e s m args below meth c s₁ X0 hexec hbytes hml hret hlk hnm hown hh0 W hP
  obtain ⟨rfl, hB, f1, f2, hA, s1, hz, l0, l1, l2, hp⟩ := hP
  have a31 := hA.1.2.2.2
  have c1 : Steps p.tables e below (s₁.setTop (entryFrame m #[.ref a, .ref b, .int (Int32.ofNat o), .int (Int32.ofNat len), .null] 6)) (s₁.setTop (mkF m 0 #[.val (.ref a), .val (.ref b), .val (.int (Int32.ofNat o)), .val (.int (Int32.ofNat len)), .val .null, .unset] [])) := entry rfl
  have c2 : Steps p.tables e below (s₁.setTop (entryFrame m #[.ref a, .ref b, .int (Int32.ofNat o), .int (Int32.ofNat len), .null] 6)) (s₁.setTop (mkF m 1 #[.val (.ref a), .val (.ref b), .val (.int (Int32.ofNat o)), .val (.int (Int32.ofNat len)), .val .null, .unset] [.ref a])) := c1.trans (by
    refine XS.aloadN X0.here hexec rfl (hb hbytes d0) rfl rfl ?_
    exact Steps.refl _)
  obtain ⟨T3, X3, q3, st3⟩ := X0.oinit hexec hown (wks W (objW "java/lang/String" 1)) (g := (mkF m 1 #[.val (.ref a), .val (.ref b), .val (.int (Int32.ofNat o)), .val (.int (Int32.ofNat len)), .val .null, .unset] [.ref a])) rfl (by rw [hml]; rfl) (rest := []) rfl (hb hbytes d1) (W := 0) (by show 2 * 0 + 0 ≤ _; decide) (Nat.le_of_ble_eq_true rfl) (Nat.le_of_ble_eq_true rfl)
  have hh3 := q3.trans hh0
  have c4 : Steps p.tables e below (s₁.setTop (entryFrame m #[.ref a, .ref b, .int (Int32.ofNat o), .int (Int32.ofNat len), .null] 6)) (T3.setTop (mkF m 27 #[.val (.ref a), .val (.ref b), .val (.int (Int32.ofNat o)), .val (.int (Int32.ofNat len)), .val .null, .unset] [])) := (c2.trans (st3 _ (Steps.refl _))).trans (by
    refine XS.iloadN X3.here hexec rfl (hb hbytes d4) rfl ?_
    refine XS.ifYes X3.here hexec rfl (pc0 := 5) rfl (hb hbytes d5) rfl (i0_ne_t (nz32 (by omega) l0)) (by decide) rfl ?_
    exact Steps.refl _)
  obtain ⟨T5, X5, q5, st5⟩ := X3.sget hexec hown (wk W (.fieldLink "java/lang/String" 38 "java/lang/String" "COMPACT_STRINGS" "Z")) s1 (fun _ _ h => by rw [hh3]; exact h) (g := (mkF m 27 #[.val (.ref a), .val (.ref b), .val (.int (Int32.ofNat o)), .val (.int (Int32.ofNat len)), .val .null, .unset] [])) rfl (hb hbytes d27)
  have hh5 := q5.trans hh3
  have c6 : Steps p.tables e below (s₁.setTop (entryFrame m #[.ref a, .ref b, .int (Int32.ofNat o), .int (Int32.ofNat len), .null] 6)) (T5.setTop (mkF m 30 #[.val (.ref a), .val (.ref b), .val (.int (Int32.ofNat o)), .val (.int (Int32.ofNat len)), .val .null, .unset] [.int z])) := c4.trans (st5 _ (Steps.refl _))
  have c7 : Steps p.tables e below (s₁.setTop (entryFrame m #[.ref a, .ref b, .int (Int32.ofNat o), .int (Int32.ofNat len), .null] 6)) (T5.setTop (mkF m 36 #[.val (.ref a), .val (.ref b), .val (.int (Int32.ofNat o)), .val (.int (Int32.ofNat len)), .val .null, .unset] [.int (Int32.ofNat len), .int (Int32.ofNat o), .ref b])) := c6.trans (by
    refine XS.ifNo X5.here hexec rfl (hb hbytes d30) rfl (i0_eq_f hz) ?_
    refine XS.aloadN X5.here hexec rfl (hb hbytes d33) rfl rfl ?_
    refine XS.iloadN X5.here hexec rfl (hb hbytes d34) rfl ?_
    refine XS.iloadN X5.here hexec rfl (hb hbytes d35) rfl ?_
    exact Steps.refl _)
  obtain ⟨v8, T8, X8, E8, g8⟩ := X5.callS hexec (Cmp3.law l b A o len) hown (wks W (staticW "java/lang/String" 177 Cmp3.yN)) (wk W Cmp3.tab) (W := 0) (Nat.le_of_ble_eq_true rfl) (Nat.le_of_ble_eq_true rfl) (Nat.le_refl _) (by show 0 + len ≤ len; omega) (g := (mkF m 36 #[.val (.ref a), .val (.ref b), .val (.int (Int32.ofNat o)), .val (.int (Int32.ofNat len)), .val .null, .unset] [.int (Int32.ofNat len), .int (Int32.ofNat o), .ref b])) rfl (by rw [hml]; rfl) c7 (argsL := [.ref b, .int (Int32.ofNat o), .int (Int32.ofNat len)]) (rest := []) rfl rfl (by show 2 * 0 + 0 ≤ _; decide) (hb hbytes d36) (⟨rfl, hA.mv X5.warmed.alike hh5, l1, l2, hp⟩)
  obtain ⟨e8, z8⟩ := E8
  obtain ⟨rfl, N, n1, n2, n3, n4, n5, n6⟩ := NewArr.mv _ T5 s _ _ hh5.symm (Vm.Alike.refl _) rfl e8
  rw [hh5] at z8
  have hB1 := hB.keep X8.warmed.alike (n6 _ _ hB.1)
  have hne : s.heap.size ≠ a := (Nat.ne_of_lt (Array.getElem?_eq_some_iff.mp hB.1).1).symm
  have c9 : Steps p.tables e below (s₁.setTop (entryFrame m #[.ref a, .ref b, .int (Int32.ofNat o), .int (Int32.ofNat len), .null] 6)) (T8.setTop (mkF m 39 #[.val (.ref a), .val (.ref b), .val (.int (Int32.ofNat o)), .val (.int (Int32.ofNat len)), .val .null, .unset] [.ref s.heap.size])) := g8
  have c10 : Steps p.tables e below (s₁.setTop (entryFrame m #[.ref a, .ref b, .int (Int32.ofNat o), .int (Int32.ofNat len), .null] 6)) (T8.setTop (mkF m 45 #[.val (.ref a), .val (.ref b), .val (.int (Int32.ofNat o)), .val (.int (Int32.ofNat len)), .val .null, .val (.ref s.heap.size)] [.int (Int32.ofNat N.slots.size), .ref s.heap.size, .ref a])) := by
    have hc : Steps p.tables e below (s₁.setTop (entryFrame m #[.ref a, .ref b, .int (Int32.ofNat o), .int (Int32.ofNat len), .null] 6)) (T8.setTop (mkF m 45 #[.val (.ref a), .val (.ref b), .val (.int (Int32.ofNat o)), .val (.int (Int32.ofNat len)), .val .null, .val (.ref s.heap.size)] [.int (Int32.ofNat len), .ref s.heap.size, .ref a])) := c9.trans (by
      refine XS.astore X8.here hexec rfl (hb hbytes d39) rfl rfl rfl ?_
      refine XS.aloadN X8.here hexec rfl (hb hbytes d41) rfl rfl ?_
      refine XS.aload X8.here hexec rfl (hb hbytes d42) rfl rfl ?_
      refine XS.iloadN X8.here hexec rfl (hb hbytes d44) rfl ?_
      exact Steps.refl _)
    rw [n4]; exact hc
  obtain ⟨v11, T11, X11, E11, g11⟩ := X8.callS hexec (CodL.law l s.heap.size N) hown (wks W (staticW "java/lang/String" 47 CodL.yN)) (wk W CodL.tab) (W := 1) (Nat.le_of_ble_eq_true rfl) (Nat.le_of_ble_eq_true rfl) (Nat.le_refl _) (by show 0 + len + 0 ≤ len; omega) (g := (mkF m 45 #[.val (.ref a), .val (.ref b), .val (.int (Int32.ofNat o)), .val (.int (Int32.ofNat len)), .val .null, .val (.ref s.heap.size)] [.int (Int32.ofNat N.slots.size), .ref s.heap.size, .ref a])) rfl (by rw [hml]; rfl) c10 (argsL := [.ref s.heap.size, .int (Int32.ofNat N.slots.size)]) (rest := [.ref a]) rfl rfl (by show 2 * 0 + (1 + 0) ≤ _; decide) (hb hbytes d45) (⟨rfl, n1⟩)
  obtain ⟨rfl, q11⟩ := E11
  have hB11 := hB1.mv (X8.warmed.alike.symm.trans X11.warmed.alike) q11
  have c12 : Steps p.tables e below (s₁.setTop (entryFrame m #[.ref a, .ref b, .int (Int32.ofNat o), .int (Int32.ofNat len), .null] 6)) (T11.setTop (mkF m 48 #[.val (.ref a), .val (.ref b), .val (.int (Int32.ofNat o)), .val (.int (Int32.ofNat len)), .val .null, .val (.ref s.heap.size)] [.int 0, .ref a])) := g11
  obtain ⟨T13, X13, p13, bl13, sl13, st13⟩ := X11.finit hexec hown (wk W (.fieldLink "java/lang/String" 15 "java/lang/String" "coder" "B")) (Or.inr ⟨_, (wk W (.laysFinal "java/lang/String" "java/lang/String" "coder" "B"))⟩) (Or.inl ⟨rfl, hnm⟩) f2 (Or.inl rfl) hB11 (t := .byte) (by decide +kernel) rfl (g := (mkF m 48 #[.val (.ref a), .val (.ref b), .val (.int (Int32.ofNat o)), .val (.int (Int32.ofNat len)), .val .null, .val (.ref s.heap.size)] [.int 0, .ref a])) rfl (rest := []) rfl (hb hbytes d48)
  have c14 : Steps p.tables e below (s₁.setTop (entryFrame m #[.ref a, .ref b, .int (Int32.ofNat o), .int (Int32.ofNat len), .null] 6)) (T13.setTop (mkF m 54 #[.val (.ref a), .val (.ref b), .val (.int (Int32.ofNat o)), .val (.int (Int32.ofNat len)), .val .null, .val (.ref s.heap.size)] [.ref s.heap.size, .ref a])) := (c12.trans (st13 _ (Steps.refl _))).trans (by
    refine XS.aloadN X13.here hexec rfl (hb hbytes d51) rfl rfl ?_
    refine XS.aload X13.here hexec rfl (hb hbytes d52) rfl rfl ?_
    exact Steps.refl _)
  obtain ⟨T15, X15, p15, bl15, sl15, st15⟩ := X13.finit hexec hown (wk W (.fieldLink "java/lang/String" 9 "java/lang/String" "value" "[B")) (Or.inr ⟨_, (wk W (.laysFinal "java/lang/String" "java/lang/String" "value" "[B"))⟩) (Or.inl ⟨rfl, hnm⟩) f1 (Or.inl rfl) bl13 (t := (.array .byte)) (by decide +kernel) rfl (g := (mkF m 54 #[.val (.ref a), .val (.ref b), .val (.int (Int32.ofNat o)), .val (.int (Int32.ofNat len)), .val .null, .val (.ref s.heap.size)] [.ref s.heap.size, .ref a])) rfl (rest := []) rfl (hb hbytes d54)
  have c16 : Steps p.tables e below (s₁.setTop (entryFrame m #[.ref a, .ref b, .int (Int32.ofNat o), .int (Int32.ofNat len), .null] 6)) (T15.setTop (mkF m 57 #[.val (.ref a), .val (.ref b), .val (.int (Int32.ofNat o)), .val (.int (Int32.ofNat len)), .val .null, .val (.ref s.heap.size)] [])) := c14.trans (st15 _ (Steps.refl _))
  have ap := apart (Or.inr ⟨_, (wk W (.laysFinal "java/lang/String" "java/lang/String" "value" "[B"))⟩) (Or.inr ⟨_, (wk W (.laysFinal "java/lang/String" "java/lang/String" "coder" "B"))⟩) f1 f2 (t₁ := .array .byte) (t₂ := .byte) (by decide +kernel) (by decide +kernel) (by decide)
  have al := X8.warmed.alike.symm.trans X15.warmed.alike
  have n7 : T11.heap[s.heap.size]? = some N := by rw [q11]; exact n1.1
  exact ⟨T15, none, _, _, _, X15, by simp, rfl, by omega, (fun _ => rfl), ⟨rfl, _, N, bl15, ((Same.refl D _).set _ (by simp)).set _ (by simp), sl15, (Cell.slots_setSlot_ne _ ap).trans sl13, n1.keep al (p15.other hne (p13.other hne n7)), n2, by rw [al.findClass]; exact n3, n4, n5, fun y c h1 h2 => p15.other h1 (p13.other h1 (by rw [q11]; exact n6 y c h2)), by rw [p15.2.2, p13.2.2, q11]; exact z8⟩, fun fs hl => c16.trans (X15.returnOut hexec hret (hb hbytes d57) hl)⟩
end New4
namespace New1
def yN : MethodName := ⟨"java/lang/String", "<init>", "([C)V"⟩
abbrev yB : ByteArray := jdk_42_method_3_code
theorem d0 : decode yB 0 = .ok (.aload_n 0, 1) := by decide +kernel
theorem d1 : decode yB 1 = .ok (.aload_n 1, 1) := by decide +kernel
theorem d2 : decode yB 2 = .ok (.iconst 0, 1) := by decide +kernel
theorem d3 : decode yB 3 = .ok (.aload_n 1, 1) := by decide +kernel
theorem d4 : decode yB 4 = .ok (.arraylength, 1) := by decide +kernel
theorem d5 : decode yB 5 = .ok (.aconst_null, 1) := by decide +kernel
theorem d6 : decode yB 6 = .ok (.invokespecial 27, 3) := by decide +kernel
theorem d9 : decode yB 9 = .ok (.return_, 1) := by decide +kernel
def site : List Cond := [New4.tab] ++ initW "java/lang/String" 27 New4.yN
def tab : Cond := tabOf yN yB 2 none site
def P (a : Addr) (D : Cell) (fV fC : Field) (b : Addr) (A : Cell) (z : Int32) (args : Array Value) (s : State) : Prop := args = #[.ref a, .ref b] ∧ Blank "java/lang/String" a D s ∧ Found "java/lang/String" "value" "[B" fV s ∧ Found "java/lang/String" "coder" "B" fC s ∧ Ch b A s ∧ StaticIs s "java/lang/String" "COMPACT_STRINGS" "Z" (.int z) ∧ ¬ z = 0 ∧ 0 < A.slots.size ∧ A.slots.size ≤ 536870912 ∧ ∀ i, i < A.slots.size → ¬ 255 < cv A i
def E (a : Addr) (D : Cell) (fV fC : Field) (A : Cell) (r : Option Value) (s u : State) : Prop := Got a D fV fC A 0 A.slots.size r s u
/-- new String(chars), not empty, no char above 255: a Latin-1 String of their low bytes -/
theorem law (l : Launch) (a : Addr) (D : Cell) (fV fC : Field) (b : Addr) (A : Cell) (z : Int32) : Law l yN 2 1 3 52 yB 2 none site (P a D fV fC b A z) (E a D fV fC A) [⟨a, fC.slot⟩, ⟨a, fV.slot⟩] 1 A.slots.size := by
  refine Law.of_walk (plainFor_of_name (by decide +kernel)) (by decide +kernel) (by decide +kernel) (by decide) (fun _ _ h => by rw [h.1]; rfl) (fun _ U U' hal hh h => ⟨h.1, h.2.1.mv hal hh, h.2.2.1.al hal, h.2.2.2.1.al hal, h.2.2.2.2.1.mv hal hh, h.2.2.2.2.2.1.there hal hh, h.2.2.2.2.2.2⟩) (fun r U U' V V' h1 hal h2 h => Got.mv r U U' V V' h1 hal h2 h) ?_
  intro p e s m args below meth c s₁ X0 hexec hbytes hml hret hlk hnm hown hh0 W hP
  obtain ⟨rfl, hB, f1, f2, hA, s1, hz, l0, l2, hp⟩ := hP
  have c1 : Steps p.tables e below (s₁.setTop (entryFrame m #[.ref a, .ref b] 2)) (s₁.setTop (mkF m 0 #[.val (.ref a), .val (.ref b)] [])) := entry rfl
  have c2 : Steps p.tables e below (s₁.setTop (entryFrame m #[.ref a, .ref b] 2)) (s₁.setTop (mkF m 6 #[.val (.ref a), .val (.ref b)] [.null, .int (Int32.ofNat A.slots.size), .int 0, .ref b, .ref a])) := c1.trans (by
    refine XS.aloadN X0.here hexec rfl (hb hbytes d0) rfl rfl ?_
    refine XS.aloadN X0.here hexec rfl (hb hbytes d1) rfl rfl ?_
    refine iconstV X0.here hexec rfl 0 (hb hbytes d2) (by decide) ?_
    refine XS.aloadN X0.here hexec rfl (hb hbytes d3) rfl rfl ?_
    refine X0.alen hexec (hA.1.mv X0.warmed.alike hh0) rfl rfl (hb hbytes d4) ?_
    refine XS.aconstNull X0.here hexec rfl (hb hbytes d5) ?_
    exact Steps.refl _)
  obtain ⟨v3, T3, X3, E3, g3⟩ := X0.callN hexec (New4.law l a D fV fC b A z 0 A.slots.size) rfl hown (wks W (initW "java/lang/String" 27 New4.yN)) (W New4.tab (by simp only [site, List.mem_cons, List.mem_append, true_or, or_true])) (W := 0) (Nat.le_of_ble_eq_true rfl) (Nat.le_of_ble_eq_true rfl) (Nat.le_refl _) (by show 0 + A.slots.size ≤ A.slots.size; omega) (g := (mkF m 6 #[.val (.ref a), .val (.ref b)] [.null, .int (Int32.ofNat A.slots.size), .int (Int32.ofNat 0), .ref b, .ref a])) rfl (by rw [hml]; rfl) c2 (argsL := [.ref b, .int (Int32.ofNat 0), .int (Int32.ofNat A.slots.size), .null]) (rest := []) rfl rfl (by show 2 * 0 + 0 ≤ _; decide) (hb hbytes d6) (⟨rfl, hB.mv X0.warmed.alike hh0, f1.al X0.warmed.alike, f2.al X0.warmed.alike, hA.mv X0.warmed.alike hh0, s1.there X0.warmed.alike hh0, hz, l0, by omega, l2, fun i hi => by rw [Nat.zero_add]; exact hp i hi⟩)
  have e0 := Got.mv _ s₁ s _ _ hh0.symm (Vm.Alike.refl _) rfl E3
  obtain rfl := e0.1
  have c4 : Steps p.tables e below (s₁.setTop (entryFrame m #[.ref a, .ref b] 2)) (T3.setTop (mkF m 9 #[.val (.ref a), .val (.ref b)] [])) := g3
  exact ⟨T3, none, _, _, _, X3, by simp, rfl, by omega, (fun _ => rfl), e0, fun fs hl => c4.trans (X3.returnOut hexec hret (hb hbytes d9) hl)⟩
theorem pays {l : Launch} {R : Room} {p : Program} {e : Env} {below : List Frame} {s : State} {sargs : Array Value} {len W : Nat} (a : Addr) (D : Cell) (fV fC : Field) (b : Addr) (A : Cell) (z : Int32) (htab : tab.before sargs s = true) (hfr : 4 ≤ R.frames) (hlo : W + 65 ≤ R.locals) :
    Back l R p e below s sargs yN len W (fun A₁ a₁ => A₁.cells + 1 ≤ R.cells ∧ A₁.slots + A.slots.size ≤ R.slots ∧ P a D fV fC b A z a₁ A₁.U) (fun A₁ _ v₁ B₁ => E a D fV fC A v₁ A₁.U B₁.U ∧ B₁.locs = A₁.locs ++ [⟨a, fC.slot⟩, ⟨a, fV.slot⟩] ∧ B₁.cells = A₁.cells + 1 ∧ B₁.slots = A₁.slots + A.slots.size) :=
  (law l a D fV fC b A z).pays htab hfr (by omega)
end New1
/-- the byte, read back as charAt reads it, is the char -/
theorem lo8_mask {x : Int32} (h0 : ¬ x < 0) (h1 : ¬ 255 < x) : lo8 x &&& 255 = x := by
  have t : ∀ k : Fin 256, lo8 (Int32.ofNat k.val) &&& 255 = Int32.ofNat k.val := by decide +kernel
  rw [Int32.lt_iff_toInt_lt] at h0 h1
  have e0 : (0 : Int32).toInt = 0 := rfl
  have e1 : (255 : Int32).toInt = 255 := rfl
  obtain ⟨k, hk⟩ : ∃ k : Nat, x.toInt = k := ⟨x.toInt.toNat, by omega⟩
  have hx : x = Int32.ofNat k := Int32.toInt_inj.mp (by rw [hk, Int32.toInt_ofNat_small (by omega)])
  rw [hx]
  exact t ⟨k, by omega⟩
end StrChars
namespace StrChars.Road
open Jvm Sem ClassFile Op Lib Jvm.Stand Jvm.Free Jvm.Free.XT
open Jvm.Lib.Cold (StaticIs)
abbrev ST : String := "java/lang/String"
/-- every table word that New1's law asks, flat -/
abbrev words : List Jvm.Cond := [.code New1.yN New1.yB 2 none, .initialized ST, .methodLink ST 27 New4.yN, .instanceMethod New4.yN,
  .code New4.yN New4.yB 6 none, .fieldLink ST 38 ST "COMPACT_STRINGS" "Z", .laysFinal ST ST "value" "[B", .fieldLink ST 9 ST "value" "[B", .laysFinal ST ST "coder" "B", .fieldLink ST 15 ST "coder" "B",
  .methodLink ST 1 Lib.objectInit, .instanceMethod Lib.objectInit, .code Lib.objectInit ⟨#[0xb1]⟩ 1 none, .methodLink ST 177 Cmp3.yN, .static Cmp3.yN, .methodLink ST 47 CodL.yN, .static CodL.yN,
  .code Cmp3.yN Cmp3.yB 6 (some (.array .byte)), .initialized U16, .arrayClass .byte, .methodLink U16 115 Cmp5.yN, .static Cmp5.yN, .code Cmp5.yN Cmp5.yB 7 (some .int), .code CodL.yN CodL.yB 2 (some .byte)]
theorem tab_of {a : Array Value} {s : State} (h : ∀ w ∈ words, w.before a s = true) : New1.tab.before a s = true := by
  have h5 : Cmp5.tab.before a s = true := unparts (wk h (.code Cmp5.yN Cmp5.yB 7 (some .int))) (wks h (.initialized Cmp5.yN.cls :: Cmp5.site))
  have hc : CodL.tab.before a s = true := unparts (wk h (.code CodL.yN CodL.yB 2 (some .byte))) (wks h (.initialized CodL.yN.cls :: CodL.site))
  have q5 : ∀ w ∈ Cmp5.tab :: words, w.before a s = true := fun w hw => (List.mem_cons.mp hw).elim (fun e => e ▸ h5) (h w)
  have h3 : Cmp3.tab.before a s = true := unparts (wk q5 (.code Cmp3.yN Cmp3.yB 6 (some (.array .byte)))) (wks q5 (.initialized Cmp3.yN.cls :: Cmp3.site))
  have q3 : ∀ w ∈ Cmp3.tab :: CodL.tab :: words, w.before a s = true := fun w hw => (List.mem_cons.mp hw).elim (fun e => e ▸ h3) fun hw => (List.mem_cons.mp hw).elim (fun e => e ▸ hc) (h w)
  have h4 : New4.tab.before a s = true := unparts (wk q3 (.code New4.yN New4.yB 6 none)) (wks q3 (.initialized New4.yN.cls :: New4.site))
  have q4 : ∀ w ∈ New4.tab :: words, w.before a s = true := fun w hw => (List.mem_cons.mp hw).elim (fun e => e ▸ h4) (h w)
  exact unparts (wk q4 (.code New1.yN New1.yB 2 none)) (wks q4 (.initialized New1.yN.cls :: New1.site))
/-- the words ride from the start Z to the walk's own state -/
theorem moved {Z s : State} {a0 args : Array Value} (hZ : Z.Warmed39 s.vm) (hw : ∀ d ∈ words, d.before a0 Z = true) : ∀ d ∈ words, d.before args s = true := fun d hd => by
  have q := hw d hd
  have t : ∀ d ∈ words, d = .arrayClass .byte ∨ (d.onTables && d.keepsFace) = true := by decide +kernel
  rcases t d hd with rfl | t
  · exact RoadKit.mvA hZ q
  · exact RoadKit.mv hZ q t
/-- WHAT COMES BACK, over the tables of the start Z: h the heap at the call, h' behind it -/
def Q (Z : State) (x : Addr) (A : Cell) (h : Heap) (v : Option Value) (h' : Heap) (L : List Loc) : Prop := v = none ∧ (∀ y ∈ L, y.base = x) ∧ RoadKit.Keep h h' [x] ∧ h'.size = h.size + 1 ∧ RoadKit.Exa Z h' x ST ∧ RoadKit.Fld Z h' x ST "value" "[B" (.ref h.size) ∧ RoadKit.Fld Z h' x ST "coder" "B" (.int 0) ∧
  (∃ V : Cell, RoadKit.Arr Z h' h.size V .byte ∧ V.vm = .none ∧ Z.vm.findClass "[B" = some V.cls ∧ V.slots.size = A.slots.size ∧ ∀ j, j < A.slots.size → V.slots[j]? = some (.int (lo8 (cv A j)))) ∧
  ∀ (O n d : String) (w : Value), RoadKit.Fld Z h x O n d w → RoadKit.slotOf Z O n d ≠ RoadKit.slotOf Z ST "value" "[B" → RoadKit.slotOf Z O n d ≠ RoadKit.slotOf Z ST "coder" "B" → RoadKit.Fld Z h' x O n d w
/-- **new String(chars) AT A CALL, IN THE ROAD'S FORM**: for specialBack behind newO: x the fresh String, b the char[] with the cell A -/
theorem back {p : Program} {l : Launch} {e : Env} {R : Room} {s : State} {args : Array Value} {below : List Frame} {len W : Nat} {Z : State} {a0 : Array Value} {h : Heap} (hZ : Z.Warmed39 s.vm) (hw : ∀ d ∈ words, d.before a0 Z = true) {kI : Nat} (wi : (Jvm.Cond.instantiable ST kI).before a0 Z = true)
    {x b : Addr} {A : Cell} {z : Int32} {v0 c0 : Value} (E : RoadKit.Exa Z h x ST) (V : RoadKit.Fld Z h x ST "value" "[B" v0) (C : RoadKit.Fld Z h x ST "coder" "B" c0) (K : RoadKit.Arr Z h b A .char) (hty : Typed .char A) (S : RoadKit.Sta Z h ST "COMPACT_STRINGS" "Z" (.int z)) (hz : ¬ z = 0)
    (l0 : 0 < A.slots.size) (l2 : A.slots.size ≤ 536870912) (hp : ∀ i, i < A.slots.size → ¬ 255 < cv A i) (hfr : 4 ≤ R.frames) (hlo : W + 65 ≤ R.locals) :
    Back l R p e below s args New1.yN len W (fun P a => a = #[.ref x, .ref b] ∧ P.U.heap = h ∧ P.cells + 1 ≤ R.cells ∧ P.slots + A.slots.size ≤ R.slots)
      (fun P _ v B => ∃ L, Q Z x A h v B.U.heap L ∧ B.locs = P.locs ++ L ∧ B.cells = P.cells + 1 ∧ B.slots = P.slots + A.slots.size) := by
  intro m meth c P g ig mk a X hg hsize hdg hW hn hp'
  obtain ⟨rfl, rfl, r1, r2⟩ := hp'
  have al : Z.vm.Alike P.U.vm := hZ.alike.trans X.warmed.alike
  obtain ⟨D, cfV, kV, iV, fV, hD, gV, stV, knV, obV, asV, slV⟩ := id V
  obtain ⟨D', cfC, kC, iC, fC, hD', gC, stC, -, -, asC, slC⟩ := id C
  cases hD.symm.trans hD'
  obtain ⟨D2, kD, e1, e2, e3, e4, e5⟩ := id E
  cases hD.symm.trans e1
  obtain ⟨c2, k2, i1, i2, i3, -⟩ := Cond.instantiable_spec wi
  cases e2.symm.trans i1
  cases e3.symm.trans i2
  obtain ⟨kU, u1, u2⟩ := al.2.2 _ _ e3
  have hB : Blank ST x D P.U := ⟨hD, ⟨knV, fun q hq => by rw [hq] at obV; cases obV⟩, by rw [al.findClass]; exact e2, kU, u1, by rw [u2]; exact i3, by rw [u2]; exact e5 i3⟩
  have F1 : Found ST "value" "[B" fV P.U := ⟨SBG.found_only al ⟨cfV, kV, iV, gV⟩, stV⟩
  have F2 : Found ST "coder" "B" fC P.U := ⟨SBG.found_only al ⟨cfC, kC, iC, gC⟩, stC⟩
  have hA : Ch b A P.U := ⟨⟨K.1, State.isArrayOf_alike al K.2.1, K.2.2, by omega⟩, hty⟩
  have hS : StaticIs P.U ST "COMPACT_STRINGS" "Z" (.int z) := by
    obtain ⟨cfS, iS, kS, fS, st, cS, t1, t2, t3, t4, t5, t6, t7⟩ := S
    exact StaticIs.there (s := { Z with heap := P.U.heap }) ⟨cfS, iS, kS, fS, st, cS, t1, t2, t3, t4, t5, (fun q => by rw [q] at t6; cases t6), t7⟩ al rfl
  obtain ⟨v, B, X', ⟨⟨hv, E', V', q1, q2, q3, q4, q5, q6, q7, q8, q9, q10, q11⟩, hl, hc, hs⟩, st⟩ := New1.pays x D fV fC b A z (tab_of (moved hZ hw)) hfr hlo m meth c P g ig mk _ X hg hsize hdg hW hn ⟨r1, r2, rfl, hB, F1, F2, hA, hS, hz, l0, l2, hp⟩
  have al' : Z.vm.Alike B.U.vm := hZ.alike.trans X'.warmed.alike
  have hsz : E'.slots.size = D.slots.size := by
    obtain ⟨-, -, -, kB, w1, w2, w3⟩ := q1
    obtain ⟨kB', y1, y2⟩ := al'.2.2 _ _ e3
    rw [q2.2.1] at w1
    cases w1.symm.trans y1
    rw [w3, e5 i3, y2]
  refine ⟨v, B, X', ⟨_, ⟨hv, ?_, ⟨by omega, fun y cy hy hn' => q10 y cy (by simpa using hn') hy, fun y cy hy => ?_⟩, q11, ⟨E', _, q1.1, by rw [q2.2.1]; exact e2, by rw [q2.2.1]; exact e3, by rw [q2.1]; exact obV, fun _ => by rw [hsz]; exact e5 i3⟩,
    ⟨E', cfV, kV, iV, fV, q1.1, gV, stV, by rw [q2.1]; exact knV, by rw [q2.1]; exact obV, by rw [q2.2.1]; exact asV, q3⟩, ⟨E', cfC, kC, iC, fC, q1.1, gC, stC, by rw [q2.1]; exact knV, by rw [q2.1]; exact obV, by rw [q2.2.1]; exact asC, q4⟩,
    ⟨V', ⟨q5.1, State.isArrayOf_alike al'.symm q5.2.1, q5.2.2.1⟩, q6, by rw [← al'.findClass]; exact q7, q8, fun j hj => by have := q9 j hj; rwa [Nat.zero_add] at this⟩, fun O n d w F n1 n2 => ?_⟩, hl, hc, hs⟩, st⟩
  · intro y hy
    simp only [List.mem_cons, List.not_mem_nil, or_false] at hy
    rcases hy with rfl | rfl <;> rfl
  · by_cases q : y = x
    · subst q
      cases hD.symm.trans hy
      exact ⟨E', q1.1, q2.2.1, q2.1, hsz⟩
    · exact ⟨cy, q10 y cy q hy, rfl, rfl, rfl⟩
  · obtain ⟨D3, cf, k, i, f, g1, g2, g3, g4, g5, g6, g7⟩ := F
    cases hD.symm.trans g1
    simp only [RoadKit.slotOf, g2, gV, gC, Option.map_some, Option.getD_some] at n1 n2
    exact ⟨E', cf, k, i, f, q1.1, g2, g3, by rw [q2.1]; exact g4, by rw [q2.1]; exact g5, by rw [q2.2.1]; exact g6, by rw [q2.2.2 f.slot (by simp [n1, n2])]; exact g7⟩
end StrChars.Road
namespace StrChars.Road
open Jvm Sem ClassFile Op Lib Jvm.Stand Jvm.Free Jvm.Free.XT
/-- WHAT COMES BACK, the byte[] as a list of values -/
def QA (Z : State) (x : Addr) (zn : Int32) (cs : List Int32) (h : Heap) (v : Option Value) (h' : Heap) (L : List Loc) : Prop := v = none ∧ (∀ y ∈ L, y.base = x) ∧ RoadKit.Keep h h' [x] ∧ h'.size = h.size + 1 ∧ RoadKit.Exa Z h' x ST ∧ RoadKit.Fld Z h' x ST "value" "[B" (.ref h.size) ∧ RoadKit.Fld Z h' x ST "coder" "B" (.int 0) ∧
  (∃ kb, Z.vm.findClass "[B" = some kb ∧ RoadKit.Arv Z h' h.size kb .byte zn (cs.map fun c => .int (lo8 c)) (.int 0)) ∧
  ∀ (O n d : String) (w : Value), RoadKit.Fld Z h x O n d w → RoadKit.slotOf Z O n d ≠ RoadKit.slotOf Z ST "value" "[B" → RoadKit.slotOf Z O n d ≠ RoadKit.slotOf Z ST "coder" "B" → RoadKit.Fld Z h' x O n d w
/-- **new String(chars) AT A CALL, THE ARRAYS AS LISTS**: the char[] at b holds cs, not empty, no char above 255 -/
theorem backArv {p : Program} {l : Launch} {e : Env} {R : Room} {s : State} {args : Array Value} {below : List Frame} {len W : Nat} {Z : State} {a0 : Array Value} {h : Heap} (hZ : Z.Warmed39 s.vm) (hw : ∀ d ∈ words, d.before a0 Z = true) {kI : Nat} (wi : (Jvm.Cond.instantiable ST kI).before a0 Z = true)
    {x b : Addr} {k : ClassId} {zn z : Int32} {cs : List Int32} {dv v0 c0 : Value} (E : RoadKit.Exa Z h x ST) (V : RoadKit.Fld Z h x ST "value" "[B" v0) (C : RoadKit.Fld Z h x ST "coder" "B" c0) (K : RoadKit.Arv Z h b k .char zn (cs.map Value.int) dv) (S : RoadKit.Sta Z h ST "COMPACT_STRINGS" "Z" (.int z)) (hz : ¬ z = 0)
    (hlen : zn.toNatClampNeg = cs.length) (h0 : 0 < cs.length) (hbig : cs.length ≤ 536870912) (hall : ∀ c ∈ cs, ¬ 255 < c) (hfr : 4 ≤ R.frames) (hlo : W + 65 ≤ R.locals) :
    Back l R p e below s args New1.yN len W (fun P a => a = #[.ref x, .ref b] ∧ P.U.heap = h ∧ P.cells + 1 ≤ R.cells ∧ P.slots + cs.length ≤ R.slots)
      (fun P _ v B => ∃ L, QA Z x zn cs h v B.U.heap L ∧ B.locs = P.locs ++ L ∧ B.cells = P.cells + 1 ∧ B.slots = P.slots + cs.length) := by
  obtain ⟨A, K1, K2, K3, K4, K5, K6⟩ := K
  have e : A.slots.size = cs.length := K3.trans hlen
  have hat : ∀ (i : Nat) (hi : i < cs.length), A.slots[i]? = some (.int cs[i]) := fun i hi => by rw [K5 i (by omega)]; simp [List.getD_eq_getElem?_getD, hi]
  have hcv : ∀ (i : Nat) (hi : i < cs.length), cv A i = cs[i] := fun i hi => by unfold cv; rw [hat i hi]
  have hty : Typed .char A := fun i v hv => by
    have hi : i < A.slots.size := (Array.getElem?_eq_some_iff.mp hv).1
    have q := K5 i hi
    rw [hv] at q
    rw [Option.some.inj q]
    exact K6 i hi
  refine Back.mono (back hZ hw wi E V C K1 hty S hz (by omega) (by omega) (fun i hi => by rw [hcv i (by omega)]; exact hall _ (List.getElem_mem _)) hfr hlo) (fun P a hp => ⟨hp.1, hp.2.1, hp.2.2.1, by rw [e]; exact hp.2.2.2⟩) (fun P a v B hp hq => ?_)
  obtain ⟨L, ⟨q1, q2, q3, q4, q5, q6, q7, ⟨V', v1, v2, v3, v4, v5⟩, q9⟩, hl, hc, hs⟩ := hq
  refine ⟨L, ⟨q1, q2, q3, q4, q5, q6, q7, ⟨V'.cls, v3, V', v1, rfl, by rw [v4, e, hlen], K4, fun i hi => ?_, fun i hi => ?_⟩, q9⟩, hl, hc, by rw [hs, e]⟩
  · have hi' : i < cs.length := by omega
    rw [v5 i (by omega), hcv i hi']; simp [List.getD_eq_getElem?_getD, hi']
  · have hi' : i < cs.length := by omega
    simp only [List.getD_eq_getElem?_getD, List.getElem?_map, List.getElem?_eq_getElem hi', Option.map_some, Option.getD_some]
    exact fits_lo8 _
end StrChars.Road
namespace StrChars.Road
open Jvm Sem ClassFile Op Lib Jvm.Stand Jvm.Free Jvm.Free.XT
/-- WHAT COMES BACK, in the writer's own shape -/
def QV (Z : State) (x : Addr) (N : Int32) (bs : List Int32) (h : Heap) (n0 : Nat) (v : Option Value) (h' : Heap) (L : List Loc) : Prop := v = none ∧ RoadKit.Fr n0 L ∧ RoadKit.Keep h h' [x] ∧ RoadKit.Exa Z h' x ST ∧ RoadKit.Fld Z h' x ST "coder" "B" (.int 0) ∧
  ∃ (t : Addr) (kb : ClassId), n0 ≤ t ∧ h.size ≤ t ∧ ¬ t = x ∧ RoadKit.Fld Z h' x ST "value" "[B" (.ref t) ∧ RoadKit.Arv Z h' t kb .byte N (bs.map Value.int) (.int 0)
/-- **new String(chars) AT A CALL, FOR THE WRITER**: a char[] of n known ints, each 0 to 255 -/
theorem backV {p : Program} {l : Launch} {e : Env} {R : Room} {s : State} {args : Array Value} {below : List Frame} {len W : Nat} {Z : State} {a0 : Array Value} {h : Heap} (hZ : Z.Warmed39 s.vm) (hw : ∀ d ∈ words, d.before a0 Z = true) {kI : Nat} (wi : (Jvm.Cond.instantiable ST kI).before a0 Z = true)
    {x b : Addr} {kC : ClassId} {cs bs : List Int32} {d v0 c0 : Value} {z N : Int32} {n n0 : Nat} (hx0 : n0 ≤ x) (hh0 : n0 ≤ h.size) (E : RoadKit.Exa Z h x ST) (V : RoadKit.Fld Z h x ST "value" "[B" v0) (C : RoadKit.Fld Z h x ST "coder" "B" c0) (K : RoadKit.Arv Z h b kC .char N (cs.map Value.int) d) (S : RoadKit.Sta Z h ST "COMPACT_STRINGS" "Z" (.int z)) (hz : ¬ z = 0)
    (hn : cs.length = n) (hN : N = Int32.ofNat n) (l0 : 0 < n) (l2 : n ≤ 4000) (hp : ∀ c ∈ cs, ¬ c < 0 ∧ ¬ (255 : Int32) < c) (hb : bs = cs.map (fun c => c.toInt8.toInt32)) (hfr : 4 ≤ R.frames) (hlo : W + 65 ≤ R.locals) :
    Back l R p e below s args (⟨"java/lang/String", "<init>", "([C)V"⟩ : MethodName) len W (fun P a => a = #[.ref x, .ref b] ∧ P.U.heap = h ∧ P.cells + 1 ≤ R.cells ∧ P.slots + n ≤ R.slots)
      (fun P _ v B => ∃ L, QV Z x N bs h n0 v B.U.heap L ∧ B.locs = P.locs ++ L ∧ B.cells = P.cells + 1 ∧ B.slots = P.slots + n) := by
  subst hn hN hb
  refine Back.mono (backArv hZ hw wi E V C K S hz (n32 (by omega)) l0 (by omega) (fun c hc => (hp c hc).2) hfr hlo) (fun P a hp => hp) (fun P a v B hp hq => ?_)
  obtain ⟨L, ⟨q1, q2, q3, q4, q5, q6, q7, ⟨kb, v1, v2⟩, q9⟩, hl, hc, hs⟩ := hq
  exact ⟨L, ⟨q1, fun y hy => by rw [q2 y hy]; exact hx0, q3, q5, q7, h.size, kb, hh0, Nat.le_refl _, Nat.ne_of_gt E.lt, q6, by rw [List.map_map]; exact v2⟩, hl, hc, hs⟩
end StrChars.Road
namespace StrChars
open Jvm Sem ClassFile Op Lib Jvm.Stand Jvm.Free.XT Jvm.Free.ALB Jvm.Free.JM Jvm.Free
open Jvm.Lib.Cold (StaticIs)
def hi8 (x : Int32) : Int32 := lo8 (x >>> ((8 : Int32) &&& 31))
/-- what StringUTF16.getChar makes of two bytes -/
def pairCh (u v : Int32) : Int32 := (((u &&& 255) <<< ((0 : Int32) &&& 31)) ||| ((v &&& 255) <<< ((8 : Int32) &&& 31))).toUInt32.toUInt16.toUInt32.toInt32
theorem lo8_and (x : Int32) : (lo8 x &&& 255).toBitVec.toNat = x.toBitVec.toNat % 256 := by
  have h : (lo8 x).toBitVec = (x.toBitVec.signExtend 8).signExtend 32 := by rw [lo8, Int8.toBitVec_toInt32, Int32.toBitVec_toInt8]
  rw [Int32.toBitVec_and, BitVec.toNat_and, h]
  have e : ((x.toBitVec.signExtend 8).signExtend 32).toNat % 256 = x.toBitVec.toNat % 256 := by
    rw [BitVec.toNat_signExtend]
    have hlt := x.toBitVec.isLt
    simp only [BitVec.toNat_setWidth, BitVec.toNat_signExtend]
    split <;> split <;> omega
  rw [← e]
  exact Nat.and_two_pow_sub_one_eq_mod _ 8
theorem pair_says {c : Int32} (h0 : ¬ c < 0) (h1 : ¬ 65535 < c) : pairCh (lo8 c) (hi8 c) = c := by
  rw [Int32.lt_iff_toInt_lt] at h0 h1
  have e0 : (0 : Int32).toInt = 0 := rfl
  have e1 : (65535 : Int32).toInt = 65535 := rfl
  have hc : c.toInt = c.toBitVec.toNat := by
    have := c.toBitVec.isLt
    have e : c.toInt = c.toBitVec.toInt := rfl
    rw [e] at h0 h1
    rw [e]
    rw [BitVec.toInt_eq_toNat_cond] at h0 h1 ⊢
    split at h0 <;> split <;> omega
  have hn : c.toBitVec.toNat < 65536 := by omega
  have a1 := lo8_and c
  have a2 : (hi8 c &&& 255).toBitVec.toNat = c.toBitVec.toNat / 256 := by
    rw [hi8, lo8_and]
    have e : ((8 : Int32) &&& 31) = 8 := by decide
    rw [e, Int32.toBitVec_shiftRight]
    have e2 : ((8 : Int32).toBitVec.smod 32) = 8#32 := by decide
    rw [e2, BitVec.sshiftRight_eq', BitVec.toNat_sshiftRight_of_msb_false (by rw [BitVec.msb_eq_false_iff_two_mul_lt]; omega)]
    show c.toBitVec.toNat >>> 8 % 256 = _
    rw [Nat.shiftRight_eq_div_pow]
    omega
  unfold pairCh
  apply Int32.toBitVec_inj.mp
  apply BitVec.eq_of_toNat_eq
  have f0 : ((0 : Int32) &&& 31) = 0 := by decide
  have f8 : ((8 : Int32) &&& 31) = 8 := by decide
  rw [f0, f8]
  have g : (((lo8 c &&& 255) <<< (0 : Int32)) ||| ((hi8 c &&& 255) <<< (8 : Int32))).toBitVec.toNat = c.toBitVec.toNat := by
    rw [Int32.toBitVec_or, Int32.toBitVec_shiftLeft, Int32.toBitVec_shiftLeft]
    have s0 : ((0 : Int32).toBitVec.smod 32) = 0#32 := by decide
    have s8 : ((8 : Int32).toBitVec.smod 32) = 8#32 := by decide
    rw [s0, s8, BitVec.toNat_or]
    simp only [BitVec.shiftLeft_eq', BitVec.toNat_shiftLeft, a1, a2]
    show (c.toBitVec.toNat % 256) <<< 0 % 2 ^ 32 ||| (c.toBitVec.toNat / 256) <<< 8 % 2 ^ 32 = _
    rw [Nat.shiftLeft_zero, Nat.mod_eq_of_lt (show c.toBitVec.toNat % 256 < 2 ^ 32 by omega), Nat.mod_eq_of_lt (show (c.toBitVec.toNat / 256) <<< 8 < 2 ^ 32 by rw [Nat.shiftLeft_eq]; omega), Nat.or_comm, ← Nat.shiftLeft_add_eq_or_of_lt (by omega), Nat.shiftLeft_eq]
    omega
  show BitVec.toNat (((((lo8 c &&& 255) <<< (0 : Int32)) ||| ((hi8 c &&& 255) <<< (8 : Int32))).toBitVec.setWidth 16).setWidth 32) = _
  rw [BitVec.toNat_setWidth, BitVec.toNat_setWidth, g]
  omega
end StrChars
namespace StrChars
open Jvm Sem ClassFile Op Lib Jvm.Stand Jvm.Free.XT Jvm.Free.ALB Jvm.Free.JM Jvm.Free
open Jvm.Lib.Cold (StaticIs)
/-- the array's cell V codes the n chars f 0 .. f (n - 1) by the coder cd, as the JDK does: coder 1 just where some char is above 255 -/
def Cod (cd : Int32) (n : Nat) (f : Nat → Int32) (V : Cell) : Prop := (cd = 0 ∧ V.slots.size = n ∧ ∀ j, j < n → V.slots[j]? = some (.int (lo8 (f j))) ∧ ¬ 255 < f j) ∨ (cd = 1 ∧ V.slots.size = 2 * n ∧ (∀ j, j < n → V.slots[2 * j]? = some (.int (lo8 (f j))) ∧ V.slots[2 * j + 1]? = some (.int (hi8 (f j)))) ∧ ∃ j, j < n ∧ 255 < f j)
/-- **x is a String of the n chars f 0 .. f (n - 1)**, Latin-1 or UTF-16; its array at t has the cell V -/
def Txt (x t : Addr) (V : Cell) (cd : Int32) (n : Nat) (f : Nat → Int32) (U : State) : Prop := Exact "java/lang/String" x U ∧ Has x "java/lang/String" "value" "[B" (.ref t) U ∧ Has x "java/lang/String" "coder" "B" (.int cd) U ∧ XT.Arr .byte t V U ∧ Cod cd n f V ∧ ∀ j, j < n → ¬ f j < 0 ∧ ¬ 65535 < f j
theorem Txt.mv {x t : Addr} {V : Cell} {cd : Int32} {n : Nat} {f : Nat → Int32} {U U' : State} (h : Txt x t V cd n f U) (hal : U.vm.Alike U'.vm) (hh : U'.heap = U.heap) : Txt x t V cd n f U' := ⟨h.1.mv hal hh, h.2.1.mv hal hh, h.2.2.1.mv hal hh, h.2.2.2.1.mv hal hh, h.2.2.2.2⟩
end StrChars
namespace StrChars.Road
open Jvm Sem ClassFile Op Lib Jvm.Stand Jvm.Free Jvm.Free.XT
open Jvm.Lib.Cold (StaticIs)
theorem consq {a : Array Value} {s : State} {c : Jvm.Cond} {L : List Jvm.Cond} (h0 : c.before a s = true) (h : ∀ w ∈ L, w.before a s = true) : ∀ w ∈ c :: L, w.before a s = true := fun w hw => (List.mem_cons.mp hw).elim (fun e => e ▸ h0) (h w)
/-- the bytes of the chars cs, low before high -/
def wideBytes : List Int32 → List Value
  | [] => []
  | c :: cs => .int (lo8 c) :: .int (hi8 c) :: wideBytes cs
theorem wide_lo (d : Value) : ∀ (cs : List Int32) (j : Nat), j < cs.length → (wideBytes cs).getD (2 * j) d = .int (lo8 (cs.getD j 0))
  | [], j, h => absurd h (Nat.not_lt_zero j)
  | c :: cs, 0, _ => rfl
  | c :: cs, j + 1, h => by
    have q := wide_lo d cs j (by simpa using h)
    rw [show 2 * (j + 1) = 2 * j + 1 + 1 from by omega]
    simpa [wideBytes] using q
theorem wide_hi (d : Value) : ∀ (cs : List Int32) (j : Nat), j < cs.length → (wideBytes cs).getD (2 * j + 1) d = .int (hi8 (cs.getD j 0))
  | [], j, h => absurd h (Nat.not_lt_zero j)
  | c :: cs, 0, _ => rfl
  | c :: cs, j + 1, h => by
    have q := wide_hi d cs j (by simpa using h)
    rw [show 2 * (j + 1) + 1 = 2 * j + 1 + 1 + 1 from by omega]
    simpa [wideBytes] using q
theorem low_at (d : Value) (cs : List Int32) (j : Nat) (h : j < cs.length) : (cs.map fun c => Value.int (lo8 c)).getD j d = .int (lo8 (cs.getD j 0)) := by
  simp [List.getD_eq_getElem?_getD, h]
/-- an array of N2 bytes vs codes the chars cs by the coder cd -/
def CodA (cs : List Int32) (cd N2 : Int32) (vs : List Value) : Prop := (cd = 0 ∧ N2 = Int32.ofNat cs.length ∧ vs = (cs.map fun c => Value.int (lo8 c)) ∧ ∀ c ∈ cs, ¬ 255 < c) ∨ (cd = 1 ∧ N2 = Int32.ofNat (2 * cs.length) ∧ vs = wideBytes cs ∧ ∃ c ∈ cs, 255 < c)
theorem CodA.cod {cs : List Int32} {cd N2 : Int32} {vs : List Value} {V : Cell} (h : CodA cs cd N2 vs) (hn : 2 * cs.length < 2 ^ 31) (hs : V.slots.size = N2.toNatClampNeg) (hv : RoadKit.Has V vs (.int 0)) : Cod cd cs.length (fun j => cs.getD j 0) V := by
  rcases h with ⟨rfl, rfl, rfl, h⟩ | ⟨rfl, rfl, rfl, c, hc, hw⟩
  · rw [n32 (by omega)] at hs
    exact Or.inl ⟨rfl, hs, fun j hj => ⟨by rw [hv j (by omega), low_at _ _ _ hj], by
      have e : cs.getD j 0 = cs[j] := by simp [List.getD_eq_getElem?_getD, hj]
      show ¬ 255 < cs.getD j 0
      rw [e]; exact h _ (List.getElem_mem _)⟩⟩
  · rw [n32 (by omega)] at hs
    obtain ⟨j, hj, rfl⟩ := List.getElem_of_mem hc
    exact Or.inr ⟨rfl, hs, fun j hj => ⟨by rw [hv _ (by omega), wide_lo _ _ _ hj], by rw [hv _ (by omega), wide_hi _ _ _ hj]⟩, j, hj, by
      have e : cs.getD j 0 = cs[j] := by simp [List.getD_eq_getElem?_getD, hj]
      show 255 < cs.getD j 0
      rw [e]; exact hw⟩
/-- an object of exactly java/lang/String, its two fields found: as the laws ask it -/
theorem strObj {Z U : State} {a0 : Array Value} {kI : Nat} (wi : (Jvm.Cond.instantiable ST kI).before a0 Z = true) (al : Z.vm.Alike U.vm) {x : Addr} {v0 c0 : Value} (E : RoadKit.Exa Z U.heap x ST) (V : RoadKit.Fld Z U.heap x ST "value" "[B" v0) (C : RoadKit.Fld Z U.heap x ST "coder" "B" c0) :
    ∃ (D : Cell) (fV fC : Field), Blank ST x D U ∧ Found ST "value" "[B" fV U ∧ Found ST "coder" "B" fC U ∧ D.slots[fV.slot]? = some v0 ∧ D.slots[fC.slot]? = some c0 ∧ RoadKit.slotOf Z ST "value" "[B" = fV.slot ∧ RoadKit.slotOf Z ST "coder" "B" = fC.slot := by
  obtain ⟨D, cfV, kV, iV, fV, hD, gV, stV, knV, obV, asV, slV⟩ := V
  obtain ⟨D', cfC, kC, iC, fC, hD', gC, stC, -, -, asC, slC⟩ := C
  cases hD.symm.trans hD'
  obtain ⟨D2, kD, e1, e2, e3, e4, e5⟩ := E
  cases hD.symm.trans e1
  obtain ⟨c2, k2, i1, i2, i3, -⟩ := Cond.instantiable_spec wi
  cases e2.symm.trans i1
  cases e3.symm.trans i2
  obtain ⟨kU, u1, u2⟩ := al.2.2 _ _ e3
  exact ⟨D, fV, fC, ⟨hD, ⟨knV, fun q hq => by rw [hq] at obV; cases obV⟩, by rw [al.findClass]; exact e2, kU, u1, by rw [u2]; exact i3, by rw [u2]; exact e5 i3⟩, ⟨SBG.found_only al ⟨cfV, kV, iV, gV⟩, stV⟩, ⟨SBG.found_only al ⟨cfC, kC, iC, gC⟩, stC⟩, slV, slC, by simp [RoadKit.slotOf, gV], by simp [RoadKit.slotOf, gC]⟩
theorem sta_is {Z U : State} (al : Z.vm.Alike U.vm) {C n d : String} {v : Value} (S : RoadKit.Sta Z U.heap C n d v) : StaticIs U C n d v := by
  obtain ⟨cfS, iS, kS, fS, st, cS, t1, t2, t3, t4, t5, t6, t7⟩ := S
  exact StaticIs.there (s := { Z with heap := U.heap }) ⟨cfS, iS, kS, fS, st, cS, t1, t2, t3, t4, t5, (fun q => by rw [q] at t6; cases t6), t7⟩ al rfl
end StrChars.Road
namespace StrChars
open Jvm Sem ClassFile Op Lib Jvm.Stand Jvm.Free.XT Jvm.Free.ALB Jvm.Free.JM Jvm.Free
open Jvm.Lib.Cold (StaticIs)
/-- what place i of a byte[]'s cell holds -/
def yv (A : Cell) (i : Nat) : Int32 := match A.slots[i]? with | some (.int x) => x | _ => 0
theorem yv_get {a : Addr} {A : Cell} {U : State} (h : XT.Arr .byte a A U) (ht : Typed .byte A) {i : Nat} (hi : i < A.slots.size) : A.slots[i]? = some (.int (yv A i)) := by
  have e := Array.getElem?_eq_getElem hi
  have f := ht i _ e
  unfold yv; rw [e]
  generalize A.slots[i] = v at f
  cases v <;> simp [fits] at f ⊢
/-- the two arrays are equal, place for place -/
def EqC (A B : Cell) : Prop := A.slots.size = B.slots.size ∧ ∀ i, i < A.slots.size → yv A i = yv B i
/-- a boolean that says whether p -/
def Says01 (q : Prop) (r : Option Value) (s u : State) : Prop := ∃ v : Int32, r = some (.int v) ∧ u.heap = s.heap ∧ ((v = 1 ∧ q) ∨ (v = 0 ∧ ¬ q))
theorem Says01.mv {q : Prop} : ∀ r (U U' V V' : State), U'.heap = U.heap → V.vm.Alike V'.vm → V'.heap = V.heap → Says01 q r U V → Says01 q r U' V' :=
  fun r U U' V V' h1 _ h2 ⟨v, a, b, c⟩ => ⟨v, a, by rw [h1, h2]; exact b, c⟩
namespace LEq
def yN : MethodName := ⟨"java/lang/StringLatin1", "equals", "([B[B)Z"⟩
abbrev yB : ByteArray := jdk_43_method_13_code
theorem d0 : decode yB 0 = .ok (.aload_n 0, 1) := by decide +kernel
theorem d1 : decode yB 1 = .ok (.arraylength, 1) := by decide +kernel
theorem d2 : decode yB 2 = .ok (.aload_n 1, 1) := by decide +kernel
theorem d3 : decode yB 3 = .ok (.arraylength, 1) := by decide +kernel
theorem d4 : decode yB 4 = .ok (.if_icmp (.ne) 30, 3) := by decide +kernel
theorem d7 : decode yB 7 = .ok (.iconst 0, 1) := by decide +kernel
theorem d8 : decode yB 8 = .ok (.istore_n 2, 1) := by decide +kernel
theorem d9 : decode yB 9 = .ok (.iload_n 2, 1) := by decide +kernel
theorem d10 : decode yB 10 = .ok (.aload_n 0, 1) := by decide +kernel
theorem d11 : decode yB 11 = .ok (.arraylength, 1) := by decide +kernel
theorem d12 : decode yB 12 = .ok (.if_icmp (.ge) 20, 3) := by decide +kernel
theorem d15 : decode yB 15 = .ok (.aload_n 0, 1) := by decide +kernel
theorem d16 : decode yB 16 = .ok (.iload_n 2, 1) := by decide +kernel
theorem d17 : decode yB 17 = .ok (.baload, 1) := by decide +kernel
theorem d18 : decode yB 18 = .ok (.aload_n 1, 1) := by decide +kernel
theorem d19 : decode yB 19 = .ok (.iload_n 2, 1) := by decide +kernel
theorem d20 : decode yB 20 = .ok (.baload, 1) := by decide +kernel
theorem d21 : decode yB 21 = .ok (.if_icmp (.eq) 5, 3) := by decide +kernel
theorem d24 : decode yB 24 = .ok (.iconst 0, 1) := by decide +kernel
theorem d25 : decode yB 25 = .ok (.ireturn, 1) := by decide +kernel
theorem d26 : decode yB 26 = .ok (.iinc 2 1, 3) := by decide +kernel
theorem d29 : decode yB 29 = .ok (.goto (-20), 3) := by decide +kernel
theorem d32 : decode yB 32 = .ok (.iconst 1, 1) := by decide +kernel
theorem d33 : decode yB 33 = .ok (.ireturn, 1) := by decide +kernel
theorem d34 : decode yB 34 = .ok (.iconst 0, 1) := by decide +kernel
theorem d35 : decode yB 35 = .ok (.ireturn, 1) := by decide +kernel
def site : List Cond := []
def tab : Cond := tabOf yN yB 3 (some .boolean) site
def P (a : Addr) (A : Cell) (b : Addr) (B : Cell) (args : Array Value) (s : State) : Prop := args = #[.ref a, .ref b] ∧ XT.Arr .byte a A s ∧ Typed .byte A ∧ XT.Arr .byte b B s ∧ Typed .byte B
/-- whether two byte[] are equal, place for place -/
theorem law (l : Launch) (a : Addr) (A : Cell) (b : Addr) (B : Cell) : Law l yN 2 2 0 0 yB 3 (some .boolean) site (P a A b B) (Says01 (EqC A B)) [] 0 0 := by
  refine Law.of_walk (plainFor_of_name (by decide +kernel)) (by decide +kernel) (by decide +kernel) (by decide) (fun _ _ h => by rw [h.1]; rfl) (fun _ U U' hal hh h => ⟨h.1, h.2.1.mv hal hh, h.2.2.1, h.2.2.2.1.mv hal hh, h.2.2.2.2⟩) (fun r U U' V V' h1 hal h2 h => Says01.mv r U U' V V' h1 hal h2 h) ?_
  intro p e s m args below meth c s₁ X0 hexec hbytes hml hret hlk hnm hown hh0 W hP
  obtain ⟨rfl, hA, tA, hB, tB⟩ := hP
  have a31 := hA.2.2.2
  have b31 := hB.2.2.2
  have hA0 := hA.mv X0.warmed.alike hh0
  have hB0 := hB.mv X0.warmed.alike hh0
  have c1 : Steps p.tables e below (s₁.setTop (entryFrame m #[.ref a, .ref b] 3)) (s₁.setTop (mkF m 0 #[.val (.ref a), .val (.ref b), .unset] [])) := entry rfl
  have c2 : Steps p.tables e below (s₁.setTop (entryFrame m #[.ref a, .ref b] 3)) (s₁.setTop (mkF m 4 #[.val (.ref a), .val (.ref b), .unset] [.int (Int32.ofNat B.slots.size), .int (Int32.ofNat A.slots.size)])) := c1.trans (by
    refine XS.aloadN X0.here hexec rfl (hb hbytes d0) rfl rfl ?_
    refine X0.alen hexec hA0 rfl rfl (hb hbytes d1) ?_
    refine XS.aloadN X0.here hexec rfl (hb hbytes d2) rfl rfl ?_
    refine X0.alen hexec hB0 rfl rfl (hb hbytes d3) ?_
    exact Steps.refl _)
  by_cases hs : A.slots.size = B.slots.size
  · have c3 : Steps p.tables e below (s₁.setTop (entryFrame m #[.ref a, .ref b] 3)) (s₁.setTop (mkF m 9 #[.val (.ref a), .val (.ref b), .val (.int 0)] [])) := c2.trans (by
      refine XS.icmpNo X0.here hexec rfl (hb hbytes d4) rfl (ii_ne_f (by rw [hs])) ?_
      refine iconstV X0.here hexec rfl 0 (hb hbytes d7) (by decide) ?_
      refine XS.istoreN X0.here hexec rfl (hb hbytes d8) rfl rfl ?_
      exact Steps.refl _)
    have loop : ∀ (r i : Nat), i + r = A.slots.size → (∀ j, j < i → yv A j = yv B j) → Steps p.tables e below (s₁.setTop (entryFrame m #[.ref a, .ref b] 3)) (s₁.setTop (mkF m 9 #[.val (.ref a), .val (.ref b), .val (.int (Int32.ofNat i))] [])) → ∃ (pc : Nat) (Ls : Array Slot) (v : Int32), (pc = 25 ∨ pc = 33) ∧ ((v = 1 ∧ EqC A B) ∨ (v = 0 ∧ ¬ EqC A B)) ∧ Steps p.tables e below (s₁.setTop (entryFrame m #[.ref a, .ref b] 3)) (s₁.setTop (mkF m pc Ls [.int v])) := by
      intro r
      induction r with
      | zero =>
        intro i hi he cl
        exact ⟨33, _, 1, Or.inr rfl, Or.inl ⟨rfl, hs, fun j hj => he j (by omega)⟩, cl.trans (by
          refine XS.iloadN X0.here hexec rfl (hb hbytes d9) rfl ?_
          refine XS.aloadN X0.here hexec rfl (hb hbytes d10) rfl rfl ?_
          refine X0.alen hexec hA0 rfl rfl (hb hbytes d11) ?_
          refine XS.icmpYes X0.here hexec rfl (pc0 := 12) rfl (hb hbytes d12) rfl (ii_ge_t (nlt32 (by omega) (by omega))) (by decide) rfl ?_
          refine iconstV X0.here hexec rfl 1 (hb hbytes d32) (by decide) ?_
          exact Steps.refl _)⟩
      | succ r ih =>
        intro i hi he cl
        have c4 : Steps p.tables e below (s₁.setTop (entryFrame m #[.ref a, .ref b] 3)) (s₁.setTop (mkF m 21 #[.val (.ref a), .val (.ref b), .val (.int (Int32.ofNat i))] [.int (yv B i), .int (yv A i)])) := cl.trans (by
          refine XS.iloadN X0.here hexec rfl (hb hbytes d9) rfl ?_
          refine XS.aloadN X0.here hexec rfl (hb hbytes d10) rfl rfl ?_
          refine X0.alen hexec hA0 rfl rfl (hb hbytes d11) ?_
          refine XS.icmpNo X0.here hexec rfl (hb hbytes d12) rfl (ii_ge_f (lt32 (by omega) (by omega))) ?_
          refine XS.aloadN X0.here hexec rfl (hb hbytes d15) rfl rfl ?_
          refine XS.iloadN X0.here hexec rfl (hb hbytes d16) rfl ?_
          refine X0.aget hexec hA0 rfl (yv_get hA tA (i := i) (by omega)) rfl rfl (hb hbytes d17) ?_
          refine XS.aloadN X0.here hexec rfl (hb hbytes d18) rfl rfl ?_
          refine XS.iloadN X0.here hexec rfl (hb hbytes d19) rfl ?_
          refine X0.aget hexec hB0 rfl (yv_get hB tB (i := i) (by omega)) rfl rfl (hb hbytes d20) ?_
          exact Steps.refl _)
        by_cases hv : yv A i = yv B i
        · have c5 : Steps p.tables e below (s₁.setTop (entryFrame m #[.ref a, .ref b] 3)) (s₁.setTop (mkF m 9 #[.val (.ref a), .val (.ref b), .val (.int (Int32.ofNat i + 1))] [])) := c4.trans (by
            refine XS.icmpYes X0.here hexec rfl (pc0 := 21) rfl (hb hbytes d21) rfl (ii_eq_t hv) (by decide) rfl ?_
            refine iincV X0.here hexec rfl 1 (hb hbytes d26) (by decide) rfl rfl ?_
            refine XS.goto X0.here hexec rfl (pc0 := 29) rfl (hb hbytes d29) (by decide) rfl ?_
            exact Steps.refl _)
          rw [succ32] at c5
          exact ih (i + 1) (by omega) (fun j hj => by
            by_cases e : j = i
            · rw [e]; exact hv
            · exact he j (by omega)) c5
        · exact ⟨25, _, 0, Or.inl rfl, Or.inr ⟨rfl, fun q => hv (q.2 i (by omega))⟩, c4.trans (by
            refine XS.icmpNo X0.here hexec rfl (hb hbytes d21) rfl (ii_eq_f hv) ?_
            refine iconstV X0.here hexec rfl 0 (hb hbytes d24) (by decide) ?_
            exact Steps.refl _)⟩
    obtain ⟨pc, Ls, v, hpc, hv, cz⟩ := loop A.slots.size 0 (by omega) (fun j hj => absurd hj (Nat.not_lt_zero j)) c3
    have nv : narrow .boolean (.int v) = .int v := by rcases hv with ⟨rfl, -⟩ | ⟨rfl, -⟩ <;> rfl
    rcases hpc with rfl | rfl
    · exact ⟨s₁, some (.int v), _, _, _, X0, rfl, rfl, rfl, (fun h => by cases h), ⟨v, rfl, hh0, hv⟩, fun fs hl => cz.trans (X0.ireturnOut hexec hret nv (Or.inr (Or.inl rfl)) (hb hbytes d25) hl)⟩
    · exact ⟨s₁, some (.int v), _, _, _, X0, rfl, rfl, rfl, (fun h => by cases h), ⟨v, rfl, hh0, hv⟩, fun fs hl => cz.trans (X0.ireturnOut hexec hret nv (Or.inr (Or.inl rfl)) (hb hbytes d33) hl)⟩
  · have c3 : Steps p.tables e below (s₁.setTop (entryFrame m #[.ref a, .ref b] 3)) (s₁.setTop (mkF m 35 #[.val (.ref a), .val (.ref b), .unset] [.int 0])) := c2.trans (by
      refine XS.icmpYes X0.here hexec rfl (pc0 := 4) rfl (hb hbytes d4) rfl (ii_ne_t (ne32 a31 b31 hs)) (by decide) rfl ?_
      refine iconstV X0.here hexec rfl 0 (hb hbytes d34) (by decide) ?_
      exact Steps.refl _)
    exact ⟨s₁, some (.int 0), _, _, _, X0, rfl, rfl, rfl, (fun h => by cases h), ⟨0, rfl, hh0, Or.inr ⟨rfl, fun q => hs q.1⟩⟩, fun fs hl => c3.trans (X0.ireturnOut hexec hret rfl (Or.inr (Or.inl rfl)) (hb hbytes d35) hl)⟩
end LEq
theorem Cod.ty {cd : Int32} {n : Nat} {f : Nat → Int32} {V : Cell} (h : Cod cd n f V) : Typed .byte V := fun i v hv => by
  have hi : i < V.slots.size := (Array.getElem?_eq_some_iff.mp hv).1
  rcases h with ⟨-, k1, k2⟩ | ⟨-, k1, k2, -⟩
  · rw [(k2 i (by omega)).1] at hv; cases hv; exact fits_lo8 _
  · rcases Nat.mod_two_eq_zero_or_one i with e | e
    · obtain ⟨j, rfl⟩ : ∃ j, i = 2 * j := ⟨i / 2, by omega⟩
      rw [(k2 j (by omega)).1] at hv; cases hv; exact fits_lo8 _
    · obtain ⟨j, rfl⟩ : ∃ j, i = 2 * j + 1 := ⟨i / 2, by omega⟩
      rw [(k2 j (by omega)).2] at hv; cases hv; exact fits_lo8 _
/-- the same text -/
def SameT (n : Nat) (f : Nat → Int32) (k : Nat) (g : Nat → Int32) : Prop := n = k ∧ ∀ j, j < n → f j = g j
theorem lo8_inj {x y : Int32} (h0 : ¬ x < 0) (h1 : ¬ 255 < x) (k0 : ¬ y < 0) (k1 : ¬ 255 < y) (h : lo8 x = lo8 y) : x = y := by
  rw [← lo8_mask h0 h1, ← lo8_mask k0 k1, h]
/-- arrays coded by one coder are equal just where the texts are -/
theorem Cod.eqv {cd : Int32} {n k : Nat} {f g : Nat → Int32} {V V' : Cell} (h : Cod cd n f V) (h' : Cod cd k g V') (hf : ∀ j, j < n → ¬ f j < 0 ∧ ¬ 65535 < f j) (hg : ∀ j, j < k → ¬ g j < 0 ∧ ¬ 65535 < g j) : EqC V V' ↔ SameT n f k g := by
  have yvv : ∀ {W : Cell} {i : Nat} {x : Int32}, W.slots[i]? = some (.int x) → yv W i = x := fun q => by unfold yv; rw [q]
  rcases h with ⟨rfl, k1, k2⟩ | ⟨rfl, k1, k2, -⟩
  · rcases h' with ⟨-, m1, m2⟩ | ⟨e, -⟩
    · constructor
      · rintro ⟨e1, e2⟩
        refine ⟨by omega, fun j hj => ?_⟩
        have q := e2 j (by omega)
        rw [yvv (k2 j hj).1, yvv (m2 j (by omega)).1] at q
        exact lo8_inj (hf j hj).1 (k2 j hj).2 (hg j (by omega)).1 (m2 j (by omega)).2 q
      · rintro ⟨rfl, e2⟩
        refine ⟨by omega, fun j hj => ?_⟩
        rw [yvv (k2 j (by omega)).1, yvv (m2 j (by omega)).1, e2 j (by omega)]
    · exact absurd e (by decide)
  · rcases h' with ⟨e, -⟩ | ⟨-, m1, m2, -⟩
    · exact absurd e (by decide)
    · constructor
      · rintro ⟨e1, e2⟩
        refine ⟨by omega, fun j hj => ?_⟩
        have q1 := e2 (2 * j) (by omega)
        have q2 := e2 (2 * j + 1) (by omega)
        rw [yvv (k2 j hj).1, yvv (m2 j (by omega)).1] at q1
        rw [yvv (k2 j hj).2, yvv (m2 j (by omega)).2] at q2
        rw [← pair_says (hf j hj).1 (hf j hj).2, ← pair_says (hg j (by omega)).1 (hg j (by omega)).2, q1, q2]
      · rintro ⟨rfl, e2⟩
        refine ⟨by omega, fun i hi => ?_⟩
        rcases Nat.mod_two_eq_zero_or_one i with e | e
        · obtain ⟨j, rfl⟩ : ∃ j, i = 2 * j := ⟨i / 2, by omega⟩
          rw [yvv (k2 j (by omega)).1, yvv (m2 j (by omega)).1, e2 j (by omega)]
        · obtain ⟨j, rfl⟩ : ∃ j, i = 2 * j + 1 := ⟨i / 2, by omega⟩
          rw [yvv (k2 j (by omega)).2, yvv (m2 j (by omega)).2, e2 j (by omega)]
/-- two codings differ: so do the texts -/
theorem Cod.dif {cd cd' : Int32} {n k : Nat} {f g : Nat → Int32} {V V' : Cell} (h : Cod cd n f V) (h' : Cod cd' k g V') (hne : ¬ cd = cd') : ¬ SameT n f k g := by
  rintro ⟨rfl, e⟩
  rcases h with ⟨rfl, -, k2⟩ | ⟨rfl, -, -, j, hj, hw⟩
  · rcases h' with ⟨rfl, -⟩ | ⟨-, -, -, j, hj, hw⟩
    · exact hne rfl
    · exact (k2 j hj).2 (by rw [e j hj]; exact hw)
  · rcases h' with ⟨-, -, m2⟩ | ⟨rfl, -⟩
    · exact (m2 j hj).2 (by rw [← e j hj]; exact hw)
    · exact hne rfl
/-- an object of exactly C is an instance of C -/
theorem cinst {p : Program} {l : Launch} {e : Env} {R : Room} {s : State} {m : MethodId} {args : Array Value} {below : List Frame} {meth : Method} {c : Code} {T : State} {locs : List Loc} {cells slots : Nat} (X : Stand p l e R s m args below meth c T locs cells slots) (hexec : p.tables.exec = Jvm.exec) {own C : String} {index : Nat} (hown : s.vm.findClass own = some m.cls) (hlink : (Cond.classLink own index C).before args s = true) {a : Addr} (hE : Exact C a T)
    {g : JFrame} (hg : g.method = m) {rest : List Value} (hstack : g.stack = .ref a :: rest) (hdg : decode c.code g.pc = .ok (.instanceof index, 3)) :
    ∃ T', Stand p l e R s m args below meth c T' locs cells slots ∧ T'.heap = T.heap ∧ ∀ target, Steps p.tables e below (T'.setTop { g with pc := g.pc + 3, stack := .int 1 :: rest }) target → Steps p.tables e below (T.setTop g) target := by
  obtain ⟨cB, h1, D, h2, h3, h4⟩ := hE
  have h1' : s.vm.findClass C = some cB := by rw [← X.warmed.alike.findClass]; exact h1
  obtain ⟨vm', X', st⟩ := X.instanceofYes hexec hown hlink h2 h4 h1' (by rw [h3]; exact Jvm.Free.SB.assignable_self _ _) hg hstack hdg
  exact ⟨_, X', rfl, st⟩
theorem cself {p : Program} {l : Launch} {e : Env} {R : Room} {s : State} {m : MethodId} {args : Array Value} {below : List Frame} {meth : Method} {c : Code} {T : State} {locs : List Loc} {cells slots : Nat} (X : Stand p l e R s m args below meth c T locs cells slots) (hexec : p.tables.exec = Jvm.exec) {own C : String} {index : Nat} (hown : s.vm.findClass own = some m.cls) (hlink : (Cond.classLink own index C).before args s = true) {a : Addr} (hE : Exact C a T)
    {g : JFrame} (hg : g.method = m) {rest : List Value} (hstack : g.stack = .ref a :: rest) (hdg : decode c.code g.pc = .ok (.checkcast index, 3)) :
    ∃ T', Stand p l e R s m args below meth c T' locs cells slots ∧ T'.heap = T.heap ∧ ∀ target, Steps p.tables e below (T'.setTop { g with pc := g.pc + 3, stack := .ref a :: rest }) target → Steps p.tables e below (T.setTop g) target := by
  obtain ⟨cB, h1, D, h2, h3, h4⟩ := hE
  have h1' : s.vm.findClass C = some cB := by rw [← X.warmed.alike.findClass]; exact h1
  obtain ⟨vm', X', st⟩ := X.checkcastYes hexec hown hlink h2 h4 h1' (by rw [h3]; exact Jvm.Free.SB.assignable_self _ _) hg hstack hdg
  exact ⟨_, X', rfl, fun t h => st t (by rw [← hstack] at h; exact h)⟩
namespace SEq
def yN : MethodName := ⟨"java/lang/String", "equals", "(Ljava/lang/Object;)Z"⟩
abbrev yB : ByteArray := jdk_42_method_66_code
theorem d0 : decode yB 0 = .ok (.aload_n 0, 1) := by decide +kernel
theorem d1 : decode yB 1 = .ok (.aload_n 1, 1) := by decide +kernel
theorem d2 : decode yB 2 = .ok (.if_acmp (.ne) 5, 3) := by decide +kernel
theorem d5 : decode yB 5 = .ok (.iconst 1, 1) := by decide +kernel
theorem d6 : decode yB 6 = .ok (.ireturn, 1) := by decide +kernel
theorem d7 : decode yB 7 = .ok (.aload_n 1, 1) := by decide +kernel
theorem d8 : decode yB 8 = .ok (.instanceof 10, 3) := by decide +kernel
theorem d11 : decode yB 11 = .ok (.ifCond (.eq) 43, 3) := by decide +kernel
theorem d14 : decode yB 14 = .ok (.aload_n 1, 1) := by decide +kernel
theorem d15 : decode yB 15 = .ok (.checkcast 10, 3) := by decide +kernel
theorem d18 : decode yB 18 = .ok (.astore_n 2, 1) := by decide +kernel
theorem d19 : decode yB 19 = .ok (.getstatic 38, 3) := by decide +kernel
theorem d22 : decode yB 22 = .ok (.ifCond (.eq) 14, 3) := by decide +kernel
theorem d25 : decode yB 25 = .ok (.aload_n 0, 1) := by decide +kernel
theorem d26 : decode yB 26 = .ok (.getfield 15, 3) := by decide +kernel
theorem d29 : decode yB 29 = .ok (.aload_n 2, 1) := by decide +kernel
theorem d30 : decode yB 30 = .ok (.getfield 15, 3) := by decide +kernel
theorem d33 : decode yB 33 = .ok (.if_icmp (.ne) 21, 3) := by decide +kernel
theorem d36 : decode yB 36 = .ok (.aload_n 0, 1) := by decide +kernel
theorem d37 : decode yB 37 = .ok (.getfield 9, 3) := by decide +kernel
theorem d40 : decode yB 40 = .ok (.aload_n 2, 1) := by decide +kernel
theorem d41 : decode yB 41 = .ok (.getfield 9, 3) := by decide +kernel
theorem d44 : decode yB 44 = .ok (.invokestatic 541, 3) := by decide +kernel
theorem d47 : decode yB 47 = .ok (.ifCond (.eq) 7, 3) := by decide +kernel
theorem d50 : decode yB 50 = .ok (.iconst 1, 1) := by decide +kernel
theorem d51 : decode yB 51 = .ok (.goto 4, 3) := by decide +kernel
theorem d54 : decode yB 54 = .ok (.iconst 0, 1) := by decide +kernel
theorem d55 : decode yB 55 = .ok (.ireturn, 1) := by decide +kernel
def site : List Cond := [.classLink "java/lang/String" 10 "java/lang/String", .fieldLink "java/lang/String" 38 "java/lang/String" "COMPACT_STRINGS" "Z", .fieldLink "java/lang/String" 15 "java/lang/String" "coder" "B", .fieldLink "java/lang/String" 9 "java/lang/String" "value" "[B", LEq.tab] ++ staticW "java/lang/String" 541 LEq.yN
def tab : Cond := tabOf yN yB 3 (some .boolean) site
def P (x t : Addr) (V : Cell) (cd : Int32) (n : Nat) (f : Nat → Int32) (y t' : Addr) (V' : Cell) (cd' : Int32) (k : Nat) (g : Nat → Int32) (z : Int32) (args : Array Value) (s : State) : Prop := args = #[.ref x, .ref y] ∧ Txt x t V cd n f s ∧ Txt y t' V' cd' k g s ∧ StaticIs s "java/lang/String" "COMPACT_STRINGS" "Z" (.int z) ∧ ¬ z = 0
/-- equals(Object) of two Strings: whether the texts are the same -/
theorem law (l : Launch) (x t : Addr) (V : Cell) (cd : Int32) (n : Nat) (f : Nat → Int32) (y t' : Addr) (V' : Cell) (cd' : Int32) (k : Nat) (g : Nat → Int32) (z : Int32) : Law l yN 2 1 1 14 yB 3 (some .boolean) site (P x t V cd n f y t' V' cd' k g z) (Says01 (SameT n f k g)) [] 0 0 := by
  refine Law.of_walk (plainFor_of_name (by decide +kernel)) (by decide +kernel) (by decide +kernel) (by decide) (fun _ _ h => by rw [h.1]; rfl) (fun _ U U' hal hh h => ⟨h.1, h.2.1.mv hal hh, h.2.2.1.mv hal hh, h.2.2.2.1.there hal hh, h.2.2.2.2⟩) (fun r U U' V V' h1 hal h2 h => Says01.mv r U U' V V' h1 hal h2 h) ?_
  intro p e s m args below meth c s₁ X0 hexec hbytes hml hret hlk hnm hown hh0 W hP
  obtain ⟨rfl, hx, hy, s1, hz⟩ := hP
  have c1 : Steps p.tables e below (s₁.setTop (entryFrame m #[.ref x, .ref y] 3)) (s₁.setTop (mkF m 2 #[.val (.ref x), .val (.ref y), .unset] [.ref y, .ref x])) := Steps.trans (entry rfl) (by
    show Steps p.tables e below (s₁.setTop (mkF m 0 #[.val (.ref x), .val (.ref y), .unset] [])) _
    refine XS.aloadN X0.here hexec rfl (hb hbytes d0) rfl rfl ?_
    refine XS.aloadN X0.here hexec rfl (hb hbytes d1) rfl rfl ?_
    exact Steps.refl _)
  by_cases hxy : x = y
  · have c2 : Steps p.tables e below (s₁.setTop (entryFrame m #[.ref x, .ref y] 3)) (s₁.setTop (mkF m 6 #[.val (.ref x), .val (.ref y), .unset] [.int 1])) := c1.trans (by
      refine acmpNo X0.here hexec rfl (hb hbytes d2) rfl rfl rfl (by simp [acmp, hxy]) ?_
      refine iconstV X0.here hexec rfl 1 (hb hbytes d5) (by decide) ?_
      exact Steps.refl _)
    subst hxy
    have ec : cd = cd' := by
      obtain ⟨D, fd, a1, a2, a3⟩ := hx.2.2.1
      obtain ⟨D', fd', b1, b2, b3⟩ := hy.2.2.1
      cases a1.symm.trans b1
      obtain ⟨q1, q2, q3, q4⟩ := a2.1
      obtain ⟨r1, r2, r3, r4⟩ := b2.1
      cases q4.symm.trans r4
      cases a3.symm.trans b3; rfl
    have et : t = t' := by
      obtain ⟨D, fd, a1, a2, a3⟩ := hx.2.1
      obtain ⟨D', fd', b1, b2, b3⟩ := hy.2.1
      cases a1.symm.trans b1
      obtain ⟨q1, q2, q3, q4⟩ := a2.1
      obtain ⟨r1, r2, r3, r4⟩ := b2.1
      cases q4.symm.trans r4
      cases a3.symm.trans b3; rfl
    subst ec et
    have ev : V = V' := by cases hx.2.2.2.1.1.symm.trans hy.2.2.2.1.1; rfl
    subst ev
    have hs : SameT n f k g := (Cod.eqv hx.2.2.2.2.1 hy.2.2.2.2.1 hx.2.2.2.2.2 hy.2.2.2.2.2).mp ⟨rfl, fun _ _ => rfl⟩
    exact ⟨s₁, some (.int 1), _, _, _, X0, rfl, rfl, rfl, (fun h => by cases h), ⟨1, rfl, hh0, Or.inl ⟨rfl, hs⟩⟩, fun fs hl => c2.trans (X0.ireturnOut hexec hret rfl (Or.inr (Or.inl rfl)) (hb hbytes d6) hl)⟩
  · have c2 : Steps p.tables e below (s₁.setTop (entryFrame m #[.ref x, .ref y] 3)) (s₁.setTop (mkF m 8 #[.val (.ref x), .val (.ref y), .unset] [.ref y])) := c1.trans (by
      refine acmpYes X0.here hexec rfl (pc0 := 2) rfl (hb hbytes d2) rfl rfl rfl (by simp [acmp, hxy]) (by decide) rfl ?_
      refine XS.aloadN X0.here hexec rfl (hb hbytes d7) rfl rfl ?_
      exact Steps.refl _)
    obtain ⟨T3, X3, q3, st3⟩ := cinst X0 hexec hown (wk W (.classLink "java/lang/String" 10 "java/lang/String")) (hy.mv X0.warmed.alike hh0).1 (g := (mkF m 8 #[.val (.ref x), .val (.ref y), .unset] [.ref y])) rfl (rest := []) rfl (hb hbytes d8)
    have hh3 := q3.trans hh0
    have c4 : Steps p.tables e below (s₁.setTop (entryFrame m #[.ref x, .ref y] 3)) (T3.setTop (mkF m 15 #[.val (.ref x), .val (.ref y), .unset] [.ref y])) := (c2.trans (st3 _ (Steps.refl _))).trans (by
      refine XS.ifNo X3.here hexec rfl (hb hbytes d11) rfl (i0_eq_f (by decide)) ?_
      refine XS.aloadN X3.here hexec rfl (hb hbytes d14) rfl rfl ?_
      exact Steps.refl _)
    obtain ⟨T5, X5, q5, st5⟩ := cself X3 hexec hown (wk W (.classLink "java/lang/String" 10 "java/lang/String")) (hy.mv X3.warmed.alike hh3).1 (g := (mkF m 15 #[.val (.ref x), .val (.ref y), .unset] [.ref y])) rfl (rest := []) rfl (hb hbytes d15)
    have hh5 := q5.trans hh3
    have c6 : Steps p.tables e below (s₁.setTop (entryFrame m #[.ref x, .ref y] 3)) (T5.setTop (mkF m 19 #[.val (.ref x), .val (.ref y), .val (.ref y)] [])) := (c4.trans (st5 _ (Steps.refl _))).trans (by
      refine XS.astoreN X5.here hexec rfl (hb hbytes d18) rfl rfl rfl ?_
      exact Steps.refl _)
    obtain ⟨T7, X7, q7, st7⟩ := X5.sget hexec hown (wk W (.fieldLink "java/lang/String" 38 "java/lang/String" "COMPACT_STRINGS" "Z")) s1 (fun _ _ h => by rw [hh5]; exact h) (g := (mkF m 19 #[.val (.ref x), .val (.ref y), .val (.ref y)] [])) rfl (hb hbytes d19)
    have hh7 := q7.trans hh5
    have c8 : Steps p.tables e below (s₁.setTop (entryFrame m #[.ref x, .ref y] 3)) (T7.setTop (mkF m 26 #[.val (.ref x), .val (.ref y), .val (.ref y)] [.ref x])) := (c6.trans (st7 _ (Steps.refl _))).trans (by
      refine XS.ifNo X7.here hexec rfl (hb hbytes d22) rfl (i0_eq_f hz) ?_
      refine XS.aloadN X7.here hexec rfl (hb hbytes d25) rfl rfl ?_
      exact Steps.refl _)
    obtain ⟨T9, X9, q9, st9⟩ := X7.hget hexec hown (wk W (.fieldLink "java/lang/String" 15 "java/lang/String" "coder" "B")) (hx.mv X7.warmed.alike hh7).2.2.1 (g := (mkF m 26 #[.val (.ref x), .val (.ref y), .val (.ref y)] [.ref x])) rfl (rest := []) rfl (hb hbytes d26)
    have hh9 := q9.trans hh7
    have c10 : Steps p.tables e below (s₁.setTop (entryFrame m #[.ref x, .ref y] 3)) (T9.setTop (mkF m 30 #[.val (.ref x), .val (.ref y), .val (.ref y)] [.ref y, .int cd])) := (c8.trans (st9 _ (Steps.refl _))).trans (by
      refine XS.aloadN X9.here hexec rfl (hb hbytes d29) rfl rfl ?_
      exact Steps.refl _)
    obtain ⟨T11, X11, q11, st11⟩ := X9.hget hexec hown (wk W (.fieldLink "java/lang/String" 15 "java/lang/String" "coder" "B")) (hy.mv X9.warmed.alike hh9).2.2.1 (g := (mkF m 30 #[.val (.ref x), .val (.ref y), .val (.ref y)] [.ref y, .int cd])) rfl (rest := [.int cd]) rfl (hb hbytes d30)
    have hh11 := q11.trans hh9
    have c12 : Steps p.tables e below (s₁.setTop (entryFrame m #[.ref x, .ref y] 3)) (T11.setTop (mkF m 33 #[.val (.ref x), .val (.ref y), .val (.ref y)] [.int cd', .int cd])) := c10.trans (st11 _ (Steps.refl _))
    by_cases hcd : cd = cd'
    · subst hcd
      have c13 : Steps p.tables e below (s₁.setTop (entryFrame m #[.ref x, .ref y] 3)) (T11.setTop (mkF m 37 #[.val (.ref x), .val (.ref y), .val (.ref y)] [.ref x])) := c12.trans (by
        refine XS.icmpNo X11.here hexec rfl (hb hbytes d33) rfl (ii_ne_f rfl) ?_
        refine XS.aloadN X11.here hexec rfl (hb hbytes d36) rfl rfl ?_
        exact Steps.refl _)
      obtain ⟨T14, X14, q14, st14⟩ := X11.hget hexec hown (wk W (.fieldLink "java/lang/String" 9 "java/lang/String" "value" "[B")) (hx.mv X11.warmed.alike hh11).2.1 (g := (mkF m 37 #[.val (.ref x), .val (.ref y), .val (.ref y)] [.ref x])) rfl (rest := []) rfl (hb hbytes d37)
      have hh14 := q14.trans hh11
      have c15 : Steps p.tables e below (s₁.setTop (entryFrame m #[.ref x, .ref y] 3)) (T14.setTop (mkF m 41 #[.val (.ref x), .val (.ref y), .val (.ref y)] [.ref y, .ref t])) := (c13.trans (st14 _ (Steps.refl _))).trans (by
        refine XS.aloadN X14.here hexec rfl (hb hbytes d40) rfl rfl ?_
        exact Steps.refl _)
      obtain ⟨T16, X16, q16, st16⟩ := X14.hget hexec hown (wk W (.fieldLink "java/lang/String" 9 "java/lang/String" "value" "[B")) (hy.mv X14.warmed.alike hh14).2.1 (g := (mkF m 41 #[.val (.ref x), .val (.ref y), .val (.ref y)] [.ref y, .ref t])) rfl (rest := [.ref t]) rfl (hb hbytes d41)
      have hh16 := q16.trans hh14
      have c17 : Steps p.tables e below (s₁.setTop (entryFrame m #[.ref x, .ref y] 3)) (T16.setTop (mkF m 44 #[.val (.ref x), .val (.ref y), .val (.ref y)] [.ref t', .ref t])) := c15.trans (st16 _ (Steps.refl _))
      obtain ⟨v18, T18, X18, E18, g18⟩ := X16.callS hexec (LEq.law l t V t' V') hown (wks W (staticW "java/lang/String" 541 LEq.yN)) (wk W LEq.tab) (W := 0) (Nat.le_of_ble_eq_true rfl) (Nat.le_of_ble_eq_true rfl) (Nat.le_refl _) (Nat.le_refl _) (g := (mkF m 44 #[.val (.ref x), .val (.ref y), .val (.ref y)] [.ref t', .ref t])) rfl (by rw [hml]; rfl) c17 (argsL := [.ref t, .ref t']) (rest := []) rfl rfl (by show 2 * 0 + 0 ≤ _; decide) (hb hbytes d44) (⟨rfl, hx.2.2.2.1.mv X16.warmed.alike hh16, hx.2.2.2.2.1.ty, hy.2.2.2.1.mv X16.warmed.alike hh16, hy.2.2.2.2.1.ty⟩)
      obtain ⟨v, rfl, q18, hv⟩ := E18
      have iff := Cod.eqv hx.2.2.2.2.1 hy.2.2.2.2.1 hx.2.2.2.2.2 hy.2.2.2.2.2
      rcases hv with ⟨rfl, he⟩ | ⟨rfl, he⟩
      · have c19 : Steps p.tables e below (s₁.setTop (entryFrame m #[.ref x, .ref y] 3)) (T18.setTop (mkF m 55 #[.val (.ref x), .val (.ref y), .val (.ref y)] [.int 1])) := Steps.trans g18 (by
          refine XS.ifNo X18.here hexec rfl (hb hbytes d47) rfl (i0_eq_f (by decide)) ?_
          refine iconstV X18.here hexec rfl 1 (hb hbytes d50) (by decide) ?_
          refine XS.goto X18.here hexec rfl (pc0 := 51) rfl (hb hbytes d51) (by decide) rfl ?_
          exact Steps.refl _)
        exact ⟨T18, some (.int 1), _, _, _, X18, rfl, rfl, rfl, (fun h => by cases h), ⟨1, rfl, q18.trans hh16, Or.inl ⟨rfl, iff.mp he⟩⟩, fun fs hl => c19.trans (X18.ireturnOut hexec hret rfl (Or.inr (Or.inl rfl)) (hb hbytes d55) hl)⟩
      · have c19 : Steps p.tables e below (s₁.setTop (entryFrame m #[.ref x, .ref y] 3)) (T18.setTop (mkF m 55 #[.val (.ref x), .val (.ref y), .val (.ref y)] [.int 0])) := Steps.trans g18 (by
          refine XS.ifYes X18.here hexec rfl (pc0 := 47) rfl (hb hbytes d47) rfl (i0_eq_t rfl) (by decide) rfl ?_
          refine iconstV X18.here hexec rfl 0 (hb hbytes d54) (by decide) ?_
          exact Steps.refl _)
        exact ⟨T18, some (.int 0), _, _, _, X18, rfl, rfl, rfl, (fun h => by cases h), ⟨0, rfl, q18.trans hh16, Or.inr ⟨rfl, fun q => he (iff.mpr q)⟩⟩, fun fs hl => c19.trans (X18.ireturnOut hexec hret rfl (Or.inr (Or.inl rfl)) (hb hbytes d55) hl)⟩
    · have c13 : Steps p.tables e below (s₁.setTop (entryFrame m #[.ref x, .ref y] 3)) (T11.setTop (mkF m 55 #[.val (.ref x), .val (.ref y), .val (.ref y)] [.int 0])) := c12.trans (by
        refine XS.icmpYes X11.here hexec rfl (pc0 := 33) rfl (hb hbytes d33) rfl (ii_ne_t hcd) (by decide) rfl ?_
        refine iconstV X11.here hexec rfl 0 (hb hbytes d54) (by decide) ?_
        exact Steps.refl _)
      exact ⟨T11, some (.int 0), _, _, _, X11, rfl, rfl, rfl, (fun h => by cases h), ⟨0, rfl, hh11, Or.inr ⟨rfl, Cod.dif hx.2.2.2.2.1 hy.2.2.2.2.1 hcd⟩⟩, fun fs hl => c13.trans (X11.ireturnOut hexec hret rfl (Or.inr (Or.inl rfl)) (hb hbytes d55) hl)⟩
theorem pays {l : Launch} {R : Room} {p : Program} {e : Env} {below : List Frame} {s : State} {sargs : Array Value} {len W : Nat} (x t : Addr) (V : Cell) (cd : Int32) (n : Nat) (f : Nat → Int32) (y t' : Addr) (V' : Cell) (cd' : Int32) (k : Nat) (g : Nat → Int32) (z : Int32) (htab : tab.before sargs s = true) (hfr : 2 ≤ R.frames) (hlo : W + 28 ≤ R.locals) :
    Back l R p e below s sargs yN len W (fun A₁ a₁ => A₁.cells + 0 ≤ R.cells ∧ A₁.slots + 0 ≤ R.slots ∧ P x t V cd n f y t' V' cd' k g z a₁ A₁.U) (fun A₁ _ v₁ B₁ => Says01 (SameT n f k g) v₁ A₁.U B₁.U ∧ B₁.locs = A₁.locs ++ [] ∧ B₁.cells = A₁.cells + 0 ∧ B₁.slots = A₁.slots + 0) :=
  (law l x t V cd n f y t' V' cd' k g z).pays htab hfr (by omega)
end SEq
end StrChars
namespace StrChars.Road
open Jvm Sem ClassFile Op Lib Jvm.Stand Jvm.Free Jvm.Free.XT
open Jvm.Lib.Cold (StaticIs)
/-- the words of String.equals(Object) -/
abbrev wordsEq : List Jvm.Cond := [.code SEq.yN SEq.yB 3 (some .boolean), .initialized ST, .classLink ST 10 ST, .fieldLink ST 38 ST "COMPACT_STRINGS" "Z", .fieldLink ST 15 ST "coder" "B", .fieldLink ST 9 ST "value" "[B", .methodLink ST 541 LEq.yN, .static LEq.yN, .code LEq.yN LEq.yB 3 (some .boolean), .initialized "java/lang/StringLatin1"]
theorem tabEq_of {a : Array Value} {s : State} (h : ∀ w ∈ wordsEq, w.before a s = true) : SEq.tab.before a s = true := by
  have hl : LEq.tab.before a s = true := unparts (wk h (.code LEq.yN LEq.yB 3 (some .boolean))) (wks h (.initialized LEq.yN.cls :: LEq.site))
  have q := consq hl h
  exact unparts (wk q (.code SEq.yN SEq.yB 3 (some .boolean))) (wks q (.initialized SEq.yN.cls :: SEq.site))
theorem movedEq {Z s : State} {a0 args : Array Value} (hZ : Z.Warmed39 s.vm) (hw : ∀ d ∈ wordsEq, d.before a0 Z = true) : ∀ d ∈ wordsEq, d.before args s = true := fun d hd => by
  have t : ∀ d ∈ wordsEq, (d.onTables && d.keepsFace) = true := by decide +kernel
  exact RoadKit.mv hZ (hw d hd) (t d hd)
/-- the road's facts of a String, as the laws ask it -/
theorem txt_of {Z U : State} {a0 : Array Value} {kI : Nat} (wi : (Jvm.Cond.instantiable ST kI).before a0 Z = true) (al : Z.vm.Alike U.vm) {x t : Addr} {kb : ClassId} {cs : List Int32} {cd N2 : Int32} {vs : List Value} (E : RoadKit.Exa Z U.heap x ST) (V : RoadKit.Fld Z U.heap x ST "value" "[B" (.ref t)) (C : RoadKit.Fld Z U.heap x ST "coder" "B" (.int cd)) (K : RoadKit.Arv Z U.heap t kb .byte N2 vs (.int 0)) (hc : CodA cs cd N2 vs) (hb : ∀ c ∈ cs, ¬ c < 0 ∧ ¬ (65535 : Int32) < c) (l2 : cs.length ≤ 4000) :
    ∃ A, Txt x t A cd cs.length (fun j => cs.getD j 0) U := by
  obtain ⟨A, K1, K2, K3, K4, K5, K6⟩ := K
  have hcod := hc.cod (by omega) K3 K5
  obtain ⟨D, fV, fC, hB, F1, F2, g1, g2, -, -⟩ := strObj wi al E V C
  exact ⟨A, ⟨_, hB.2.2.1, D, hB.1, rfl, by cases q : D.vm <;> first | rfl | exact absurd q (hB.2.1.2 _)⟩, Has.of hB F1 g1, Has.of hB F2 g2, ⟨K1.1, State.isArrayOf_alike al K1.2.1, K1.2.2, by rcases hcod with ⟨-, q, -⟩ | ⟨-, q, -⟩ <;> omega⟩, hcod, fun j hj => by
    have e : cs.getD j 0 = cs[j] := by simp [List.getD_eq_getElem?_getD, hj]
    show ¬ cs.getD j 0 < 0 ∧ ¬ 65535 < cs.getD j 0
    rw [e]; exact hb _ (List.getElem_mem _)⟩
theorem same_list (cs ds : List Int32) : SameT cs.length (fun j => cs.getD j 0) ds.length (fun j => ds.getD j 0) ↔ cs = ds := by
  constructor
  · rintro ⟨e, q⟩
    refine List.ext_getElem e fun j h1 h2 => ?_
    have := q j h1
    simpa [List.getD_eq_getElem?_getD, h1, h2] using this
  · rintro rfl
    exact ⟨rfl, fun _ _ => rfl⟩
/-- **equals(Object) OF TWO SUCH STRINGS**: 1 just where the chars are the same -/
theorem eqW {p : Program} {l : Launch} {e : Env} {R : Room} {s : State} {args : Array Value} {below : List Frame} {len W : Nat} {Z : State} {a0 : Array Value} {h : Heap} (hZ : Z.Warmed39 s.vm) (hw : ∀ d ∈ wordsEq, d.before a0 Z = true) {kI : Nat} (wi : (Jvm.Cond.instantiable ST kI).before a0 Z = true)
    {x t : Addr} {kb : ClassId} {cs : List Int32} {cd N2 : Int32} {vs : List Value} (E : RoadKit.Exa Z h x ST) (V : RoadKit.Fld Z h x ST "value" "[B" (.ref t)) (C : RoadKit.Fld Z h x ST "coder" "B" (.int cd)) (K : RoadKit.Arv Z h t kb .byte N2 vs (.int 0)) (hc : CodA cs cd N2 vs) (hb : ∀ c ∈ cs, ¬ c < 0 ∧ ¬ (65535 : Int32) < c) (l2 : cs.length ≤ 4000)
    {y t' : Addr} {kb' : ClassId} {ds : List Int32} {cd' N2' : Int32} {vs' : List Value} (E' : RoadKit.Exa Z h y ST) (V' : RoadKit.Fld Z h y ST "value" "[B" (.ref t')) (C' : RoadKit.Fld Z h y ST "coder" "B" (.int cd')) (K' : RoadKit.Arv Z h t' kb' .byte N2' vs' (.int 0)) (hc' : CodA ds cd' N2' vs') (hb' : ∀ c ∈ ds, ¬ c < 0 ∧ ¬ (65535 : Int32) < c) (l2' : ds.length ≤ 4000)
    {z : Int32} (S : RoadKit.Sta Z h ST "COMPACT_STRINGS" "Z" (.int z)) (hz : ¬ z = 0) (hfr : 2 ≤ R.frames) (hlo : W + 28 ≤ R.locals) :
    Back l R p e below s args (⟨"java/lang/String", "equals", "(Ljava/lang/Object;)Z"⟩ : MethodName) len W (fun P a => a = #[.ref x, .ref y] ∧ P.U.heap = h ∧ P.cells + 0 ≤ R.cells ∧ P.slots + 0 ≤ R.slots)
      (fun P _ v B => ∃ L, (((v = some (.int 1) ∧ cs = ds) ∨ (v = some (.int 0) ∧ ¬ cs = ds)) ∧ L = [] ∧ B.U.heap = h) ∧ B.locs = P.locs ++ L ∧ B.cells = P.cells + 0 ∧ B.slots = P.slots + 0) := by
  intro m meth c P g ig mk a X hg hsize hdg hW hn hp'
  obtain ⟨rfl, rfl, r1, r2⟩ := hp'
  have al : Z.vm.Alike P.U.vm := hZ.alike.trans X.warmed.alike
  obtain ⟨A, hx⟩ := txt_of wi al E V C K hc hb l2
  obtain ⟨A', hy⟩ := txt_of wi al E' V' C' K' hc' hb' l2'
  obtain ⟨v, B, X', ⟨⟨w, hv, hh, hq⟩, hl, hk, hs⟩, st⟩ := SEq.pays x t A cd cs.length (fun j => cs.getD j 0) y t' A' cd' ds.length (fun j => ds.getD j 0) z (tabEq_of (movedEq hZ hw)) hfr hlo m meth c P g ig mk _ X hg hsize hdg hW hn ⟨r1, r2, rfl, hx, hy, sta_is al S, hz⟩
  refine ⟨v, B, X', ⟨[], ⟨?_, rfl, hh⟩, hl, hk, hs⟩, st⟩
  rcases hq with ⟨rfl, q⟩ | ⟨rfl, q⟩
  · exact Or.inl ⟨hv, (same_list cs ds).mp q⟩
  · exact Or.inr ⟨hv, fun e => q ((same_list cs ds).mpr e)⟩
end StrChars.Road
end Jvm.Pilot.@@N@@

namespace Jvm.Pilot.@@N@@
open Jvm Jvm.ClassFile Sem Op Lib Jvm.Free Jvm.Stand Jvm.LawKit Jvm.RoadKit Bundle Jvm.Pilot.@@N@@.Jvm.D
theorem own_hws {Z : State} {a0 : Array Value} (hw : ∀ d ∈ tables_1, d.before a0 Z = true) : ∀ d ∈ StrChars.Road.words, d.before a0 Z = true := fun d hd => hw d ((by decide +kernel : ∀ d ∈ StrChars.Road.words, d ∈ tables_1) d hd)
theorem own_heq {Z : State} {a0 : Array Value} (hw : ∀ d ∈ tables_1, d.before a0 Z = true) : ∀ d ∈ StrChars.Road.wordsEq, d.before a0 Z = true := fun d hd => hw d ((by decide +kernel : ∀ d ∈ StrChars.Road.wordsEq, d ∈ tables_1) d hd)
theorem own_codn {cs : List Int32} {N : Int32} (hN : N = Int32.ofNat cs.length) (hb : ∀ c ∈ cs, ¬ (255 : Int32) < c) : StrChars.Road.CodA cs 0 N ((cs.map (fun c => c.toInt8.toInt32)).map Value.int) := Or.inl ⟨rfl, hN, by rw [List.map_map]; rfl, hb⟩
def own_eqs (cs ds : List Int32) : Int32 := if cs = ds then 1 else 0
theorem own_up {cs : List Int32} (h : ∀ c ∈ cs, ¬ c < 0 ∧ ¬ (255 : Int32) < c) : ∀ c ∈ cs, ¬ c < 0 ∧ ¬ (65535 : Int32) < c := fun c hc => ⟨(h c hc).1, fun q => (h c hc).2 (by rw [Int32.lt_iff_toInt_lt] at q ⊢; have e1 : (65535 : Int32).toInt = 65535 := rfl; have e2 : (255 : Int32).toInt = 255 := rfl; omega)⟩
abbrev EL1 : List (String × Nat) := [("com/example/lease/lease/store/KeyRange", 50), ("com/example/lease/lease/store/KeyRange", 43), ("com/example/lease/lease/store/KeyRange", 45)]
theorem own_EW {Z : State} {a0 : Array Value} (hw : ∀ d ∈ tables_1, d.before a0 Z = true) : EW Z a0 EL1 := (EW.cons (hw _ (List.mem_of_getElem? (i := 142) rfl)) (by decide +kernel) (EW.cons (hw _ (List.mem_of_getElem? (i := 212) rfl)) (by decide +kernel) (EW.cons (hw _ (List.mem_of_getElem? (i := 213) rfl)) (by decide +kernel) EW.nil)))
theorem own_ELin : ∀ p ∈ EL1, p ∈ consts_1 := by decide +kernel
theorem own_wSin : ∀ a ∈ Bundle.stringAtoms, a ∈ tables_1 := by decide +kernel
theorem own_wS {Z : State} {a0 : Array Value} (hw : ∀ d ∈ tables_1, d.before a0 Z = true) : ∀ a ∈ Bundle.stringAtoms, a.before a0 Z = true := fun a h => hw a (own_wSin a h)
theorem own_backS {p : Program} {l : Launch} {e : Env} {R : Room} {s : State} {args : Array Value} {below : List Frame} {Z : State} {a0 : Array Value} {EL : List (String × Nat)} {h : Heap} {vm0 : Vm} {sf : List Addr} {y : MethodName} {bytes : ByteArray} {maxL : Nat} {ret : Option FieldType} {rm : Room} {len W : Nat} {as' : Array Value} {Q : Option Value → Heap → List Loc → Prop}
    (hM : MetFree l y (head1 [Cond.code y bytes maxL ret] rm) (fun a U => a = as' ∧ Z.Warmed39 U.vm ∧ U.heap = h ∧ CHv Z EL U.vm h ∧ ∀ x ∈ sf, Safe Z EL U.vm h x) (fun _ _ _ _ _ => True) (fun _ U o U' => ∃ v L, o = .returned v ∧ Q v U'.heap L ∧ CHr Z EL U.vm U.heap U'.vm U'.heap ∧ ReturnedEndW U o U' L rm.cells rm.slots))
    (hZ : Z.Warmed39 vm0) (wc : (Cond.code y bytes maxL ret).before a0 Z = true) (wz : (Cond.initialized y.cls).before a0 Z = true) (hf : rm.frames + 1 ≤ R.frames) (hl : W + (maxL + 11) + rm.locals ≤ R.locals) (hEL : EW Z a0 EL) (H : CHv Z EL vm0 h) (hsf : ∀ x ∈ sf, Safe Z EL vm0 h x) (hlt : ∀ x ∈ sf, x < h.size) :
    BackS l R p e below (s.setVm vm0) args y len W (fun A a => a = as' ∧ A.U.heap = h ∧ A.cells + rm.cells ≤ R.cells ∧ A.slots + rm.slots ≤ R.slots)
      (fun A _ v B => ∃ L, Q v B.U.heap L ∧ B.locs = A.locs ++ L ∧ B.cells = A.cells + rm.cells ∧ B.slots = A.slots + rm.slots ∧ CHr Z EL vm0 h B.U.vm B.U.heap) := by
  have key : ∀ {m : MethodId} {meth : Method} {c : Code} {A : Pt}, Stand p l e R (s.setVm vm0) m args below meth c A.U A.locs A.cells A.slots → CHr Z EL vm0 h A.U.vm h := fun Y => CHv.at Y hZ hEL H
  refine BackS.of_freeW (bytes := bytes) (maxL := maxL) (ret := ret) (E := fun _ first o t L k n => k = rm.cells ∧ n = rm.slots ∧ (∃ v, o = .returned v ∧ Q v t.heap L) ∧ CHr Z EL first.vm first.heap t.vm t.heap) hM hf hl ?_ ?_ (fun _ _ _ _ _ _ _ _ _ => trivial) ?_ ?_
  · intro m meth c A a Y hp
    have hU : Z.Warmed39 A.U.vm := wtrans (s := s.setVm vm0) hZ Y.warmed
    exact ⟨by show (Cond.and _ .tt).before a A.U = true; rw [Cond.before_and, mv hU wc]; rfl, mv hU wc, mv hU wz, hp.2.2.1, hp.2.2.2⟩
  · intro m meth c A a g mk Y hp
    exact ⟨hp.1, wtrans (s := s.setVm vm0) hZ Y.warmed, hp.2.1, (key Y).1, fun x hx => (key Y).safe (hlt x hx) (hsf x hx)⟩
  · rintro _ _ _ _ ⟨v, L, h1, h2, h3, h4⟩
    exact ⟨L, _, _, h4, rfl, rfl, ⟨v, h1, h2⟩, h3⟩
  · rintro m meth c A a g mk v t L k n Y hp _ _ ⟨e1, e2, ⟨v', e3, e4⟩, e5⟩
    cases e3; subst e1 e2
    refine ⟨L, e4, rfl, rfl, rfl, (key Y).trans ?_⟩
    rw [← hp.2.1]; exact e5
theorem own_nf {s : State} {args : Array Value} {C : String} {y z : MethodName} (hsel : (Jvm.Cond.selects C z z).before args s = true) (e : y.cls = z.cls) : NotFace s y := fun r0 h0 => by
  obtain ⟨c2, r2, m2, q1, q2, q3, q4, kP, hkP, hkPi⟩ := Cond.selects_spec hsel
  have h1 := findClass_of_methodNamed h0
  have h2 := findClass_of_methodNamed q3
  rw [e] at h1
  have e2 : r0.cls = m2.cls := Option.some.inj (h1.symm.trans h2)
  exact ⟨kP, by rw [e2]; exact hkP, hkPi⟩
theorem own_sameM {Z : State} {a0 : Array Value} {C : String} {y z : MethodName} (w3 : (Jvm.Cond.instanceMethod y).before a0 Z = true) (w4 : (Jvm.Cond.selects C z z).before a0 Z = true) (e : y.cls = z.cls) (hy : y.cls ≠ "java/lang/invoke/MethodHandle" ∧ y.cls ≠ "java/lang/invoke/VarHandle") : (Jvm.Cond.sameMethod y.cls y.cls y.name y.desc).before a0 Z = true := by
  obtain ⟨mk, methM, hnamed, hmethM, -, -⟩ := Cond.instanceMethod_spec w3
  have hf := State.methodFound?_of_named hnamed hy
  have hc := findClass_of_methodNamed hnamed
  obtain ⟨k, hk, hi⟩ := own_nf w4 e mk hnamed
  have hnamed' : Z.methodNamed? ⟨y.cls, y.name, y.desc⟩ = some mk := hnamed
  simp [Cond.before, Cond.holds, Cond.value, hc, hf, hnamed', hk, hi]
theorem own_selfsel {Z : State} {a0 : Array Value} {C : String} {y : MethodName} (w : (Jvm.Cond.selects C y y).before a0 Z = true) (wp : (Jvm.Cond.privateMethod y).before a0 Z = true) (wi : (Jvm.Cond.instanceMethod y).before a0 Z = true) (hy : y.cls ≠ "java/lang/invoke/MethodHandle" ∧ y.cls ≠ "java/lang/invoke/VarHandle") : (Jvm.Cond.selects y.cls y y).before a0 Z = true := by
  obtain ⟨c2, r2, m2, -, -, q3, -, kP, hkP, hkPi⟩ := Cond.selects_spec w
  exact Jvm.Stand.selects_self_of_private (findClass_of_methodNamed q3) hkP hkPi (Cond.privateMethod_at wp) wi hy
theorem own_eqself (cs : List Int32) : ¬ (own_eqs cs cs = (0 : Int32)) := by rw [own_eqs, if_pos rfl]; decide
theorem own_all0 : ∀ c ∈ ([] : List Int32), ¬ c < 0 ∧ ¬ (255 : Int32) < c := fun c hc => absurd hc (List.not_mem_nil)
theorem own_allS {a : Int32} {cs : List Int32} (h : ¬ a < 0 ∧ ¬ (255 : Int32) < a) (t : ∀ c ∈ cs, ¬ c < 0 ∧ ¬ (255 : Int32) < c) : ∀ c ∈ a :: cs, ¬ c < 0 ∧ ¬ (255 : Int32) < c := fun c hc => by
  rcases List.mem_cons.mp hc with rfl | q
  · exact h
  · exact t c q
theorem own_and (x : Int32) : (¬ (x &&& (255 : Int32)) < 0 ∧ ¬ (255 : Int32) < (x &&& (255 : Int32))) ∧ nar .char (x &&& (255 : Int32)) = (x &&& (255 : Int32)) := by
  have d1 := c_mask x 255 8 (by decide) (by decide)
  refine ⟨⟨?_, ?_⟩, i2c_mask x⟩
  · rw [Int32.lt_iff_toInt_lt, d1, show (0 : Int32).toInt = 0 by decide]; omega
  · rw [Int32.lt_iff_toInt_lt, d1, show (255 : Int32).toInt = 255 by decide]; omega
theorem own_ch (x : Int32) : (¬ ((x &&& (255 : Int32)).toUInt32.toUInt16.toUInt32.toInt32) < 0 ∧ ¬ (255 : Int32) < ((x &&& (255 : Int32)).toUInt32.toUInt16.toUInt32.toInt32)) ∧ nar .char ((x &&& (255 : Int32)).toUInt32.toUInt16.toUInt32.toInt32) = ((x &&& (255 : Int32)).toUInt32.toUInt16.toUInt32.toInt32) := by
  rw [i2c_mask]; exact own_and x

theorem own_wb {Z : State} {a0 : Array Value} (hw : ∀ d ∈ tables_1, d.before a0 Z = true) : (Jvm.Cond.arrayClass .byte).before a0 Z = true := (hw _ (List.mem_of_getElem? (i := 19) rfl))
theorem own_wi {Z : State} {a0 : Array Value} (hw : ∀ d ∈ tables_1, d.before a0 Z = true) : (Jvm.Cond.instantiable "java/lang/String" 4).before a0 Z = true := (hw _ (List.mem_of_getElem? (i := 1) rfl))
theorem ltA {a b : Nat} (h : @LT.lt Addr instLTNat a b) : @LT.lt Nat instLTNat a b := h
theorem ltN {a b : Nat} (h : @LT.lt Nat instLTNat a b) : @LT.lt Addr instLTNat a b := h
theorem wz {a b : Nat} (h : a = b) : a ≤ b := Nat.le_of_eq h
theorem neN {a b : Nat} (h : @Ne Nat a b) : @Ne Addr a b := h
abbrev HW (Z : State) (a0 : Array Value) : Prop := ∀ d ∈ tables_1, d.before a0 Z = true
abbrev RM (f c s l : Nat) : Room := { frames := f, cells := c, slots := s, locals := l }
abbrev OwnM (l : Launch) (Z : State) (h0 : Heap) (y : MethodName) (cs : List Jvm.Cond) (rm : Room) (as' : Array Value) (Q : Option Value → Heap → List Loc → Prop) : Prop := MetFree l y (head1 cs rm) (fun a U => a = as' ∧ Z.Warmed39 U.vm ∧ U.heap = h0) (fun _ _ _ _ _ => True) (fun _ U o U' => ∃ v L, o = .returned v ∧ Q v U'.heap L ∧ FrameEnd U o U' L rm.cells rm.slots)
abbrev OwnW (l : Launch) (Z : State) (h0 : Heap) (y : MethodName) (cs : List Jvm.Cond) (rm : Room) (as' : Array Value) (sf : List Addr) (Q : Option Value → Heap → List Loc → Prop) : Prop := MetFree l y (head1 cs rm) (fun a U => a = as' ∧ Z.Warmed39 U.vm ∧ U.heap = h0 ∧ CHv Z EL1 U.vm h0 ∧ ∀ x ∈ sf, Safe Z EL1 U.vm h0 x) (fun _ _ _ _ _ => True) (fun _ U o U' => ∃ v L, o = .returned v ∧ Q v U'.heap L ∧ CHr Z EL1 U.vm U.heap U'.vm U'.heap ∧ ReturnedEndW U o U' L rm.cells rm.slots)
set_option maxRecDepth 65536
set_option maxHeartbeats 40000000
abbrev GO (p : Program) (e : Env) (below : List Frame) (T : State) (g : JFrame) (t : State) : Prop := Steps p.tables e below (T.setTop g) t
theorem wd {Z : State} {a0 : Array Value} (hw : ∀ d ∈ tables_1, d.before a0 Z = true) (i : Nat) {d : Jvm.Cond} (h : tables_1[i]? = some d) : d.before a0 Z = true := hw _ (List.mem_of_getElem? h)
abbrev la0 (x0 : Addr) (x1 : Addr) (x2 : Int32) : Array Slot := #[.val (.ref x0), .val (.ref x1), .val (.int x2)]
abbrev la1 (x0 : Addr) (x1 : Addr) (x2 : Addr) : Array Slot := #[.val (.ref x0), .val (.ref x1), .val (.ref x2)]
abbrev la2 (x0 : Addr) (x1 : Int32) : Array Slot := #[.val (.ref x0), .val (.int x1), .unset]
abbrev la3 (x0 : Addr) (x1 : Int32) (x2 : Int32) : Array Slot := #[.val (.ref x0), .val (.int x1), .val (.int x2)]
abbrev la4 (x0 : Addr) (x1 : Addr) (x2 : Int32) (x3 : Int32) : Array Slot := #[.val (.ref x0), .val (.ref x1), .val (.int x2), .val (.int x3)]
abbrev la5 (x0 : Addr) (x1 : Int32) (x2 : Addr) : Array Slot := #[.val (.ref x0), .val (.int x1), .val (.ref x2)]
abbrev la6 (x0 : Addr) (x1 : Addr) : Array Slot := #[.val (.ref x0), .val (.ref x1), .unset]
abbrev la7 (x0 : Addr) (x1 : Int32) (x2 : Int32) : Array Slot := #[.val (.ref x0), .val (.int x1), .val (.int x2), .unset, .unset]
abbrev la8 (x0 : Addr) (x1 : Int32) (x2 : Int32) (x3 : Int32) : Array Slot := #[.val (.ref x0), .val (.int x1), .val (.int x2), .val (.int x3), .unset]
abbrev la9 (x0 : Addr) (x1 : Int32) (x2 : Int32) (x3 : Int32) (x4 : Addr) : Array Slot := #[.val (.ref x0), .val (.int x1), .val (.int x2), .val (.int x3), .val (.ref x4)]
abbrev la10 (x0 : Addr) (x1 : Addr) : Array Slot := #[.val (.ref x0), .val (.ref x1), .val .null, .unset, .unset]
abbrev la11 (x0 : Addr) (x1 : Addr) (x3 : Addr) : Array Slot := #[.val (.ref x0), .val (.ref x1), .val .null, .val (.ref x3), .unset]
abbrev la12 (x0 : Addr) (x1 : Addr) (x3 : Addr) (x4 : Int32) : Array Slot := #[.val (.ref x0), .val (.ref x1), .val .null, .val (.ref x3), .val (.int x4)]
abbrev la13 (x0 : Int32) (x1 : Int32) (x2 : Int32) : Array Slot := #[.val (.int x0), .val (.int x1), .val (.int x2), .unset]
abbrev la14 (x0 : Int32) (x1 : Int32) (x2 : Int32) (x3 : Int32) : Array Slot := #[.val (.int x0), .val (.int x1), .val (.int x2), .val (.int x3)]
abbrev la15 (x0 : Addr) (x1 : Int32) : Array Slot := #[.val (.ref x0), .val (.int x1), .unset, .unset, .unset, .unset]
abbrev la16 (x0 : Addr) (x1 : Int32) (x2 : Int32) : Array Slot := #[.val (.ref x0), .val (.int x1), .val (.int x2), .unset, .unset, .unset]
abbrev la17 (x0 : Addr) (x1 : Int32) (x2 : Int32) (x3 : Int32) : Array Slot := #[.val (.ref x0), .val (.int x1), .val (.int x2), .val (.int x3), .unset, .unset]
abbrev la18 (x0 : Addr) (x1 : Int32) (x2 : Int32) (x3 : Int32) (x4 : Int32) : Array Slot := #[.val (.ref x0), .val (.int x1), .val (.int x2), .val (.int x3), .val (.int x4), .unset]
abbrev la19 (x0 : Addr) (x1 : Int32) (x2 : Int32) (x3 : Int32) (x4 : Int32) (x5 : Int32) : Array Slot := #[.val (.ref x0), .val (.int x1), .val (.int x2), .val (.int x3), .val (.int x4), .val (.int x5)]
abbrev la20 (x0 : Int32) (x1 : Int32) (x2 : Int32) (x3 : Int32) (x4 : Int32) : Array Slot := #[.val (.int x0), .val (.int x1), .val (.int x2), .val (.int x3), .val (.int x4), .unset, .unset, .unset, .unset, .unset, .unset, .unset, .unset]
abbrev la21 (x0 : Int32) (x1 : Int32) (x2 : Int32) (x3 : Int32) (x4 : Int32) (x5 : Int32) : Array Slot := #[.val (.int x0), .val (.int x1), .val (.int x2), .val (.int x3), .val (.int x4), .val (.int x5), .unset, .unset, .unset, .unset, .unset, .unset, .unset]
abbrev la22 (x0 : Int32) (x1 : Int32) (x2 : Int32) (x3 : Int32) (x4 : Int32) (x5 : Int32) (x6 : Int32) : Array Slot := #[.val (.int x0), .val (.int x1), .val (.int x2), .val (.int x3), .val (.int x4), .val (.int x5), .val (.int x6), .unset, .unset, .unset, .unset, .unset, .unset]
abbrev la23 (x0 : Int32) (x1 : Int32) (x2 : Int32) (x3 : Int32) (x4 : Int32) (x5 : Int32) (x6 : Int32) (x7 : Addr) : Array Slot := #[.val (.int x0), .val (.int x1), .val (.int x2), .val (.int x3), .val (.int x4), .val (.int x5), .val (.int x6), .val (.ref x7), .unset, .unset, .unset, .unset, .unset]
abbrev la24 (x0 : Int32) (x1 : Int32) (x2 : Int32) (x3 : Int32) (x4 : Int32) (x5 : Int32) (x6 : Int32) (x7 : Addr) (x8 : Int32) : Array Slot := #[.val (.int x0), .val (.int x1), .val (.int x2), .val (.int x3), .val (.int x4), .val (.int x5), .val (.int x6), .val (.ref x7), .val (.int x8), .unset, .unset, .unset, .unset]
abbrev la25 (x0 : Int32) (x1 : Int32) (x2 : Int32) (x3 : Int32) (x4 : Int32) (x5 : Int32) (x6 : Int32) (x7 : Addr) (x8 : Int32) (x9 : Addr) : Array Slot := #[.val (.int x0), .val (.int x1), .val (.int x2), .val (.int x3), .val (.int x4), .val (.int x5), .val (.int x6), .val (.ref x7), .val (.int x8), .val (.ref x9), .unset, .unset, .unset]
abbrev la26 (x0 : Int32) (x1 : Int32) (x2 : Int32) (x3 : Int32) (x4 : Int32) (x5 : Int32) (x6 : Int32) (x7 : Addr) (x8 : Int32) (x9 : Addr) (x10 : Addr) : Array Slot := #[.val (.int x0), .val (.int x1), .val (.int x2), .val (.int x3), .val (.int x4), .val (.int x5), .val (.int x6), .val (.ref x7), .val (.int x8), .val (.ref x9), .val (.ref x10), .unset, .unset]
abbrev la27 (x0 : Int32) (x1 : Int32) (x2 : Int32) (x3 : Int32) (x4 : Int32) (x5 : Int32) (x6 : Int32) (x7 : Addr) (x8 : Int32) (x9 : Addr) (x10 : Addr) (x11 : Addr) : Array Slot := #[.val (.int x0), .val (.int x1), .val (.int x2), .val (.int x3), .val (.int x4), .val (.int x5), .val (.int x6), .val (.ref x7), .val (.int x8), .val (.ref x9), .val (.ref x10), .val (.ref x11), .unset]
abbrev la28 (x0 : Int32) (x1 : Int32) (x2 : Int32) (x3 : Int32) (x4 : Int32) (x5 : Int32) (x6 : Int32) (x7 : Addr) (x8 : Int32) (x9 : Addr) (x10 : Addr) (x11 : Addr) (x12 : Addr) : Array Slot := #[.val (.int x0), .val (.int x1), .val (.int x2), .val (.int x3), .val (.int x4), .val (.int x5), .val (.int x6), .val (.ref x7), .val (.int x8), .val (.ref x9), .val (.ref x10), .val (.ref x11), .val (.ref x12)]
theorem pd_0 : parseMethodDescriptor "(C)Z" = some ⟨[.char], some .boolean⟩ := by decide +kernel
theorem pd_1 : parseMethodDescriptor "(C)[B" = some ⟨[.char], some (.array .byte)⟩ := by decide +kernel
theorem pd_2 : parseMethodDescriptor "([BB)V" = some ⟨[(.array .byte), .byte], none⟩ := by decide +kernel
theorem pd_3 : parseMethodDescriptor "(Ljava/lang/Object;)Ljava/lang/Object;" = some ⟨[(.object "java/lang/Object")], some (.object "java/lang/Object")⟩ := by decide +kernel
theorem pd_4 : parseMethodDescriptor "(Ljava/lang/Object;)V" = some ⟨[(.object "java/lang/Object")], none⟩ := by decide +kernel
theorem pd_5 : parseMethodDescriptor "()V" = some ⟨[], none⟩ := by decide +kernel
theorem pd_6 : parseMethodDescriptor "(I)V" = some ⟨[.int], none⟩ := by decide +kernel
theorem pd_7 : parseMethodDescriptor "()B" = some ⟨[], some .byte⟩ := by decide +kernel
theorem pd_8 : parseMethodDescriptor "(Ljava/lang/String;)V" = some ⟨[(.object "java/lang/String")], none⟩ := by decide +kernel
theorem pd_9 : parseMethodDescriptor "([BIB)V" = some ⟨[(.array .byte), .int, .byte], none⟩ := by decide +kernel
theorem pd_10 : parseMethodDescriptor "()I" = some ⟨[], some .int⟩ := by decide +kernel
theorem pd_11 : parseMethodDescriptor "(ILjava/lang/String;)V" = some ⟨[.int, (.object "java/lang/String")], none⟩ := by decide +kernel
theorem pd_12 : parseMethodDescriptor "(Ljava/lang/String;)Ljava/lang/AbstractStringBuilder;" = some ⟨[(.object "java/lang/String")], some (.object "java/lang/AbstractStringBuilder")⟩ := by decide +kernel
theorem pd_13 : parseMethodDescriptor "(II)V" = some ⟨[.int, .int], none⟩ := by decide +kernel
theorem pd_14 : parseMethodDescriptor "(II)I" = some ⟨[.int, .int], some .int⟩ := by decide +kernel
theorem pd_15 : parseMethodDescriptor "([BII)[B" = some ⟨[(.array .byte), .int, .int], some (.array .byte)⟩ := by decide +kernel
theorem pd_16 : parseMethodDescriptor "()[B" = some ⟨[], some (.array .byte)⟩ := by decide +kernel
theorem pd_17 : parseMethodDescriptor "()Z" = some ⟨[], some .boolean⟩ := by decide +kernel
theorem pd_18 : parseMethodDescriptor "(Ljava/lang/AbstractStringBuilder;Ljava/lang/Void;)V" = some ⟨[(.object "java/lang/AbstractStringBuilder"), (.object "java/lang/Void")], none⟩ := by decide +kernel
theorem pd_19 : parseMethodDescriptor "(Ljava/lang/StringBuilder;)V" = some ⟨[(.object "java/lang/StringBuilder")], none⟩ := by decide +kernel
theorem pd_20 : parseMethodDescriptor "(Ljava/lang/String;)Ljava/lang/StringBuilder;" = some ⟨[(.object "java/lang/String")], some (.object "java/lang/StringBuilder")⟩ := by decide +kernel
theorem pd_21 : parseMethodDescriptor "()Ljava/lang/String;" = some ⟨[], some (.object "java/lang/String")⟩ := by decide +kernel
theorem pd_22 : parseMethodDescriptor "(III)I" = some ⟨[.int, .int, .int], some .int⟩ := by decide +kernel
theorem pd_23 : parseMethodDescriptor "(I)I" = some ⟨[.int], some .int⟩ := by decide +kernel
theorem pd_24 : parseMethodDescriptor "([BI)[B" = some ⟨[(.array .byte), .int], some (.array .byte)⟩ := by decide +kernel
theorem pd_25 : parseMethodDescriptor "([C)V" = some ⟨[(.array .char)], none⟩ := by decide +kernel
theorem pd_26 : parseMethodDescriptor "()Ljava/util/Optional;" = some ⟨[], some (.object "java/util/Optional")⟩ := by decide +kernel
theorem pd_27 : parseMethodDescriptor "(C)Ljava/lang/String;" = some ⟨[.char], some (.object "java/lang/String")⟩ := by decide +kernel
theorem pd_28 : parseMethodDescriptor "(Ljava/lang/String;Ljava/util/Optional;)V" = some ⟨[(.object "java/lang/String"), (.object "java/util/Optional")], none⟩ := by decide +kernel
theorem pd_29 : parseMethodDescriptor "(Ljava/lang/String;)Ljava/lang/String;" = some ⟨[(.object "java/lang/String")], some (.object "java/lang/String")⟩ := by decide +kernel
theorem pd_30 : parseMethodDescriptor "(Ljava/lang/Object;)Z" = some ⟨[(.object "java/lang/Object")], some .boolean⟩ := by decide +kernel
theorem pd_31 : parseMethodDescriptor "(Ljava/lang/Object;)Ljava/util/Optional;" = some ⟨[(.object "java/lang/Object")], some (.object "java/util/Optional")⟩ := by decide +kernel
theorem pn_0 : plainName "java/lang/StringLatin1" = true := by first | (simp [plainName, overriddenIn]; done) | decide +kernel
theorem pn_1 : plainName "java/lang/String" = true := by first | (simp [plainName, overriddenIn]; done) | decide +kernel
theorem pn_2 : plainName "java/util/Objects" = true := by first | (simp [plainName, overriddenIn]; done) | decide +kernel
theorem pn_3 : plainName "java/util/Optional" = true := by first | (simp [plainName, overriddenIn]; done) | decide +kernel
theorem pn_4 : plainName "java/lang/Record" = true := by first | (simp [plainName, overriddenIn]; done) | decide +kernel
theorem pn_5 : plainName "com/example/lease/lease/store/KeyRange" = true := by first | (simp [plainName, overriddenIn]; done) | decide +kernel
theorem pn_6 : plainName "java/lang/AbstractStringBuilder" = true := by first | (simp [plainName, overriddenIn]; done) | decide +kernel
theorem pn_7 : plainName "java/lang/StringBuilder" = true := by first | (simp [plainName, overriddenIn]; done) | decide +kernel
theorem pn_8 : plainName "java/util/Arrays" = true := by first | (simp [plainName, overriddenIn]; done) | decide +kernel
theorem pn_9 : plainName "jdk/internal/util/ArraysSupport" = true := by first | (simp [plainName, overriddenIn]; done) | decide +kernel
theorem pn_10 : plainName "com/example/lease/lease/store/KeyRangeConditionPinLaw" = true := by first | (simp [plainName, overriddenIn]; done) | decide +kernel
theorem d9_0 : decode jdk_43_method_3_code 0 = .ok (.iload_n 0, 1) := by decide +kernel
theorem d9_1 : decode jdk_43_method_3_code 1 = .ok (.sipush 255, 3) := by decide +kernel
theorem d9_4 : decode jdk_43_method_3_code 4 = .ok (.if_icmp .gt 7, 3) := by decide +kernel
theorem d9_7 : decode jdk_43_method_3_code 7 = .ok (.iconst 1, 1) := by decide +kernel
theorem d9_8 : decode jdk_43_method_3_code 8 = .ok (.goto 4, 3) := by decide +kernel
theorem d9_12 : decode jdk_43_method_3_code 12 = .ok (.ireturn, 1) := by decide +kernel
theorem d10_0 : decode jdk_43_method_46_code 0 = .ok (.iconst 1, 1) := by decide +kernel
theorem d10_1 : decode jdk_43_method_46_code 1 = .ok (.newarray .byte, 2) := by decide +kernel
theorem d10_3 : decode jdk_43_method_46_code 3 = .ok (.dup, 1) := by decide +kernel
theorem d10_4 : decode jdk_43_method_46_code 4 = .ok (.iconst 0, 1) := by decide +kernel
theorem d10_5 : decode jdk_43_method_46_code 5 = .ok (.iload_n 0, 1) := by decide +kernel
theorem d10_6 : decode jdk_43_method_46_code 6 = .ok (.i2b, 1) := by decide +kernel
theorem d10_7 : decode jdk_43_method_46_code 7 = .ok (.bastore, 1) := by decide +kernel
theorem d10_8 : decode jdk_43_method_46_code 8 = .ok (.areturn, 1) := by decide +kernel
theorem d11_0 : decode jdk_42_method_151_code 0 = .ok (.aload_n 0, 1) := by decide +kernel
theorem d11_1 : decode jdk_42_method_151_code 1 = .ok (.invokespecial 1, 3) := by decide +kernel
theorem d11_4 : decode jdk_42_method_151_code 4 = .ok (.aload_n 0, 1) := by decide +kernel
theorem d11_5 : decode jdk_42_method_151_code 5 = .ok (.aload_n 1, 1) := by decide +kernel
theorem d11_6 : decode jdk_42_method_151_code 6 = .ok (.putfield 9, 3) := by decide +kernel
theorem d11_9 : decode jdk_42_method_151_code 9 = .ok (.aload_n 0, 1) := by decide +kernel
theorem d11_10 : decode jdk_42_method_151_code 10 = .ok (.iload_n 2, 1) := by decide +kernel
theorem d11_11 : decode jdk_42_method_151_code 11 = .ok (.putfield 15, 3) := by decide +kernel
theorem d11_14 : decode jdk_42_method_151_code 14 = .ok (.return_, 1) := by decide +kernel
theorem d8_0 : decode jdk_42_method_139_code 0 = .ok (.getstatic 38, 3) := by decide +kernel
theorem d8_3 : decode jdk_42_method_139_code 3 = .ok (.ifCond .eq 23, 3) := by decide +kernel
theorem d8_6 : decode jdk_42_method_139_code 6 = .ok (.iload_n 0, 1) := by decide +kernel
theorem d8_7 : decode jdk_42_method_139_code 7 = .ok (.invokestatic 1015, 3) := by decide +kernel
theorem d8_10 : decode jdk_42_method_139_code 10 = .ok (.ifCond .eq 16, 3) := by decide +kernel
theorem d8_13 : decode jdk_42_method_139_code 13 = .ok (.new 10, 3) := by decide +kernel
theorem d8_16 : decode jdk_42_method_139_code 16 = .ok (.dup, 1) := by decide +kernel
theorem d8_17 : decode jdk_42_method_139_code 17 = .ok (.iload_n 0, 1) := by decide +kernel
theorem d8_18 : decode jdk_42_method_139_code 18 = .ok (.invokestatic 1018, 3) := by decide +kernel
theorem d8_21 : decode jdk_42_method_139_code 21 = .ok (.iconst 0, 1) := by decide +kernel
theorem d8_22 : decode jdk_42_method_139_code 22 = .ok (.invokespecial 209, 3) := by decide +kernel
theorem d8_25 : decode jdk_42_method_139_code 25 = .ok (.areturn, 1) := by decide +kernel
theorem d40_0 : decode jdk_31_method_10_code 0 = .ok (.aload_n 0, 1) := by decide +kernel
theorem d40_1 : decode jdk_31_method_10_code 1 = .ok (.ifnonnull 11, 3) := by decide +kernel
theorem d40_12 : decode jdk_31_method_10_code 12 = .ok (.aload_n 0, 1) := by decide +kernel
theorem d40_13 : decode jdk_31_method_10_code 13 = .ok (.areturn, 1) := by decide +kernel
theorem d41_0 : decode jdk_32_method_2_code 0 = .ok (.aload_n 0, 1) := by decide +kernel
theorem d41_1 : decode jdk_32_method_2_code 1 = .ok (.invokespecial 7, 3) := by decide +kernel
theorem d41_4 : decode jdk_32_method_2_code 4 = .ok (.aload_n 0, 1) := by decide +kernel
theorem d41_5 : decode jdk_32_method_2_code 5 = .ok (.aload_n 1, 1) := by decide +kernel
theorem d41_6 : decode jdk_32_method_2_code 6 = .ok (.putfield 13, 3) := by decide +kernel
theorem d41_9 : decode jdk_32_method_2_code 9 = .ok (.return_, 1) := by decide +kernel
theorem d39_0 : decode jdk_32_method_3_code 0 = .ok (.new 2, 3) := by decide +kernel
theorem d39_3 : decode jdk_32_method_3_code 3 = .ok (.dup, 1) := by decide +kernel
theorem d39_4 : decode jdk_32_method_3_code 4 = .ok (.aload_n 0, 1) := by decide +kernel
theorem d39_5 : decode jdk_32_method_3_code 5 = .ok (.invokestatic 17, 3) := by decide +kernel
theorem d39_8 : decode jdk_32_method_3_code 8 = .ok (.invokespecial 23, 3) := by decide +kernel
theorem d39_11 : decode jdk_32_method_3_code 11 = .ok (.areturn, 1) := by decide +kernel
theorem d7_0 : decode jdk_32_method_1_code 0 = .ok (.getstatic 1, 3) := by decide +kernel
theorem d7_3 : decode jdk_32_method_1_code 3 = .ok (.astore_n 0, 1) := by decide +kernel
theorem d7_4 : decode jdk_32_method_1_code 4 = .ok (.aload_n 0, 1) := by decide +kernel
theorem d7_5 : decode jdk_32_method_1_code 5 = .ok (.areturn, 1) := by decide +kernel
theorem d15_0 : decode jdk_32_method_6_code 0 = .ok (.aload_n 0, 1) := by decide +kernel
theorem d15_1 : decode jdk_32_method_6_code 1 = .ok (.getfield 13, 3) := by decide +kernel
theorem d15_4 : decode jdk_32_method_6_code 4 = .ok (.ifnull 7, 3) := by decide +kernel
theorem d15_11 : decode jdk_32_method_6_code 11 = .ok (.iconst 0, 1) := by decide +kernel
theorem d15_12 : decode jdk_32_method_6_code 12 = .ok (.ireturn, 1) := by decide +kernel
theorem d15_7 : decode jdk_32_method_6_code 7 = .ok (.iconst 1, 1) := by decide +kernel
theorem d15_8 : decode jdk_32_method_6_code 8 = .ok (.goto 4, 3) := by decide +kernel
theorem d13_0 : decode jdk_30_method_1_code 0 = .ok (.aload_n 0, 1) := by decide +kernel
theorem d13_1 : decode jdk_30_method_1_code 1 = .ok (.invokespecial 1, 3) := by decide +kernel
theorem d13_4 : decode jdk_30_method_1_code 4 = .ok (.return_, 1) := by decide +kernel
theorem d12_0 : decode prog_34_method_1_code 0 = .ok (.aload_n 0, 1) := by decide +kernel
theorem d12_1 : decode prog_34_method_1_code 1 = .ok (.invokespecial 1, 3) := by decide +kernel
theorem d12_4 : decode prog_34_method_1_code 4 = .ok (.aload_n 0, 1) := by decide +kernel
theorem d12_5 : decode prog_34_method_1_code 5 = .ok (.aload_n 1, 1) := by decide +kernel
theorem d12_6 : decode prog_34_method_1_code 6 = .ok (.putfield 7, 3) := by decide +kernel
theorem d12_9 : decode prog_34_method_1_code 9 = .ok (.aload_n 0, 1) := by decide +kernel
theorem d12_10 : decode prog_34_method_1_code 10 = .ok (.aload_n 2, 1) := by decide +kernel
theorem d12_11 : decode prog_34_method_1_code 11 = .ok (.putfield 13, 3) := by decide +kernel
theorem d12_14 : decode prog_34_method_1_code 14 = .ok (.return_, 1) := by decide +kernel
theorem d17_0 : decode jdk_68_method_2_code 0 = .ok (.aload_n 0, 1) := by decide +kernel
theorem d17_1 : decode jdk_68_method_2_code 1 = .ok (.invokespecial 3, 3) := by decide +kernel
theorem d17_4 : decode jdk_68_method_2_code 4 = .ok (.getstatic 18, 3) := by decide +kernel
theorem d17_7 : decode jdk_68_method_2_code 7 = .ok (.ifCond .eq 18, 3) := by decide +kernel
theorem d17_10 : decode jdk_68_method_2_code 10 = .ok (.aload_n 0, 1) := by decide +kernel
theorem d17_11 : decode jdk_68_method_2_code 11 = .ok (.iload_n 1, 1) := by decide +kernel
theorem d17_12 : decode jdk_68_method_2_code 12 = .ok (.newarray .byte, 2) := by decide +kernel
theorem d17_14 : decode jdk_68_method_2_code 14 = .ok (.putfield 15, 3) := by decide +kernel
theorem d17_17 : decode jdk_68_method_2_code 17 = .ok (.aload_n 0, 1) := by decide +kernel
theorem d17_18 : decode jdk_68_method_2_code 18 = .ok (.iconst 0, 1) := by decide +kernel
theorem d17_19 : decode jdk_68_method_2_code 19 = .ok (.putfield 22, 3) := by decide +kernel
theorem d17_22 : decode jdk_68_method_2_code 22 = .ok (.goto 16, 3) := by decide +kernel
theorem d17_38 : decode jdk_68_method_2_code 38 = .ok (.return_, 1) := by decide +kernel
theorem d16_0 : decode jdk_67_method_1_code 0 = .ok (.aload_n 0, 1) := by decide +kernel
theorem d16_1 : decode jdk_67_method_1_code 1 = .ok (.bipush 16, 2) := by decide +kernel
theorem d16_3 : decode jdk_67_method_1_code 3 = .ok (.invokespecial 1, 3) := by decide +kernel
theorem d16_6 : decode jdk_67_method_1_code 6 = .ok (.return_, 1) := by decide +kernel
theorem d21_0 : decode jdk_42_method_152_code 0 = .ok (.getstatic 38, 3) := by decide +kernel
theorem d21_3 : decode jdk_42_method_152_code 3 = .ok (.ifCond .eq 10, 3) := by decide +kernel
theorem d21_6 : decode jdk_42_method_152_code 6 = .ok (.aload_n 0, 1) := by decide +kernel
theorem d21_7 : decode jdk_42_method_152_code 7 = .ok (.getfield 15, 3) := by decide +kernel
theorem d21_10 : decode jdk_42_method_152_code 10 = .ok (.goto 4, 3) := by decide +kernel
theorem d21_14 : decode jdk_42_method_152_code 14 = .ok (.ireturn, 1) := by decide +kernel
theorem d20_0 : decode jdk_42_method_54_code 0 = .ok (.aload_n 0, 1) := by decide +kernel
theorem d20_1 : decode jdk_42_method_54_code 1 = .ok (.getfield 9, 3) := by decide +kernel
theorem d20_4 : decode jdk_42_method_54_code 4 = .ok (.arraylength, 1) := by decide +kernel
theorem d20_5 : decode jdk_42_method_54_code 5 = .ok (.aload_n 0, 1) := by decide +kernel
theorem d20_6 : decode jdk_42_method_54_code 6 = .ok (.invokevirtual 335, 3) := by decide +kernel
theorem d20_9 : decode jdk_42_method_54_code 9 = .ok (.ishr, 1) := by decide +kernel
theorem d20_10 : decode jdk_42_method_54_code 10 = .ok (.ireturn, 1) := by decide +kernel
theorem d22_0 : decode jdk_68_method_9_code 0 = .ok (.aload_n 0, 1) := by decide +kernel
theorem d22_1 : decode jdk_68_method_9_code 1 = .ok (.getfield 15, 3) := by decide +kernel
theorem d22_4 : decode jdk_68_method_9_code 4 = .ok (.arraylength, 1) := by decide +kernel
theorem d22_5 : decode jdk_68_method_9_code 5 = .ok (.aload_n 0, 1) := by decide +kernel
theorem d22_6 : decode jdk_68_method_9_code 6 = .ok (.getfield 22, 3) := by decide +kernel
theorem d22_9 : decode jdk_68_method_9_code 9 = .ok (.ishr, 1) := by decide +kernel
theorem d22_10 : decode jdk_68_method_9_code 10 = .ok (.istore_n 2, 1) := by decide +kernel
theorem d22_11 : decode jdk_68_method_9_code 11 = .ok (.iload_n 1, 1) := by decide +kernel
theorem d22_12 : decode jdk_68_method_9_code 12 = .ok (.iload_n 2, 1) := by decide +kernel
theorem d22_13 : decode jdk_68_method_9_code 13 = .ok (.isub, 1) := by decide +kernel
theorem d22_14 : decode jdk_68_method_9_code 14 = .ok (.ifCond .le 24, 3) := by decide +kernel
theorem d22_38 : decode jdk_68_method_9_code 38 = .ok (.return_, 1) := by decide +kernel
theorem d24_0 : decode jdk_68_method_71_code 0 = .ok (.getstatic 18, 3) := by decide +kernel
theorem d24_3 : decode jdk_68_method_71_code 3 = .ok (.ifCond .eq 18, 3) := by decide +kernel
theorem d24_6 : decode jdk_68_method_71_code 6 = .ok (.aload_n 0, 1) := by decide +kernel
theorem d24_7 : decode jdk_68_method_71_code 7 = .ok (.getfield 22, 3) := by decide +kernel
theorem d24_10 : decode jdk_68_method_71_code 10 = .ok (.aload_n 1, 1) := by decide +kernel
theorem d24_11 : decode jdk_68_method_71_code 11 = .ok (.invokevirtual 40, 3) := by decide +kernel
theorem d24_14 : decode jdk_68_method_71_code 14 = .ok (.if_icmp .eq 7, 3) := by decide +kernel
theorem d24_21 : decode jdk_68_method_71_code 21 = .ok (.return_, 1) := by decide +kernel
theorem d25_0 : decode jdk_42_method_147_code 0 = .ok (.aload_n 0, 1) := by decide +kernel
theorem d25_1 : decode jdk_42_method_147_code 1 = .ok (.invokevirtual 335, 3) := by decide +kernel
theorem d25_4 : decode jdk_42_method_147_code 4 = .ok (.iload_n 3, 1) := by decide +kernel
theorem d25_5 : decode jdk_42_method_147_code 5 = .ok (.if_icmp .ne 23, 3) := by decide +kernel
theorem d25_8 : decode jdk_42_method_147_code 8 = .ok (.aload_n 0, 1) := by decide +kernel
theorem d25_9 : decode jdk_42_method_147_code 9 = .ok (.getfield 9, 3) := by decide +kernel
theorem d25_12 : decode jdk_42_method_147_code 12 = .ok (.iconst 0, 1) := by decide +kernel
theorem d25_13 : decode jdk_42_method_147_code 13 = .ok (.aload_n 1, 1) := by decide +kernel
theorem d25_14 : decode jdk_42_method_147_code 14 = .ok (.iload_n 2, 1) := by decide +kernel
theorem d25_15 : decode jdk_42_method_147_code 15 = .ok (.iload_n 3, 1) := by decide +kernel
theorem d25_16 : decode jdk_42_method_147_code 16 = .ok (.ishl, 1) := by decide +kernel
theorem d25_17 : decode jdk_42_method_147_code 17 = .ok (.aload_n 0, 1) := by decide +kernel
theorem d25_18 : decode jdk_42_method_147_code 18 = .ok (.getfield 9, 3) := by decide +kernel
theorem d25_21 : decode jdk_42_method_147_code 21 = .ok (.arraylength, 1) := by decide +kernel
theorem d25_22 : decode jdk_42_method_147_code 22 = .ok (.invokestatic 212, 3) := by decide +kernel
theorem d25_25 : decode jdk_42_method_147_code 25 = .ok (.goto 18, 3) := by decide +kernel
theorem d25_43 : decode jdk_42_method_147_code 43 = .ok (.return_, 1) := by decide +kernel
theorem d23_0 : decode jdk_68_method_73_code 0 = .ok (.aload_n 0, 1) := by decide +kernel
theorem d23_1 : decode jdk_68_method_73_code 1 = .ok (.aload_n 2, 1) := by decide +kernel
theorem d23_2 : decode jdk_68_method_73_code 2 = .ok (.invokevirtual 397, 3) := by decide +kernel
theorem d23_5 : decode jdk_68_method_73_code 5 = .ok (.aload_n 2, 1) := by decide +kernel
theorem d23_6 : decode jdk_68_method_73_code 6 = .ok (.aload_n 0, 1) := by decide +kernel
theorem d23_7 : decode jdk_68_method_73_code 7 = .ok (.getfield 15, 3) := by decide +kernel
theorem d23_10 : decode jdk_68_method_73_code 10 = .ok (.iload_n 1, 1) := by decide +kernel
theorem d23_11 : decode jdk_68_method_73_code 11 = .ok (.aload_n 0, 1) := by decide +kernel
theorem d23_12 : decode jdk_68_method_73_code 12 = .ok (.getfield 22, 3) := by decide +kernel
theorem d23_15 : decode jdk_68_method_73_code 15 = .ok (.invokevirtual 399, 3) := by decide +kernel
theorem d23_18 : decode jdk_68_method_73_code 18 = .ok (.return_, 1) := by decide +kernel
theorem d19_0 : decode jdk_68_method_22_code 0 = .ok (.aload_n 1, 1) := by decide +kernel
theorem d19_1 : decode jdk_68_method_22_code 1 = .ok (.ifnonnull 8, 3) := by decide +kernel
theorem d19_9 : decode jdk_68_method_22_code 9 = .ok (.aload_n 1, 1) := by decide +kernel
theorem d19_10 : decode jdk_68_method_22_code 10 = .ok (.invokevirtual 32, 3) := by decide +kernel
theorem d19_13 : decode jdk_68_method_22_code 13 = .ok (.istore_n 2, 1) := by decide +kernel
theorem d19_14 : decode jdk_68_method_22_code 14 = .ok (.aload_n 0, 1) := by decide +kernel
theorem d19_15 : decode jdk_68_method_22_code 15 = .ok (.aload_n 0, 1) := by decide +kernel
theorem d19_16 : decode jdk_68_method_22_code 16 = .ok (.getfield 79, 3) := by decide +kernel
theorem d19_19 : decode jdk_68_method_22_code 19 = .ok (.iload_n 2, 1) := by decide +kernel
theorem d19_20 : decode jdk_68_method_22_code 20 = .ok (.iadd, 1) := by decide +kernel
theorem d19_21 : decode jdk_68_method_22_code 21 = .ok (.invokevirtual 100, 3) := by decide +kernel
theorem d19_24 : decode jdk_68_method_22_code 24 = .ok (.aload_n 0, 1) := by decide +kernel
theorem d19_25 : decode jdk_68_method_22_code 25 = .ok (.aload_n 0, 1) := by decide +kernel
theorem d19_26 : decode jdk_68_method_22_code 26 = .ok (.getfield 79, 3) := by decide +kernel
theorem d19_29 : decode jdk_68_method_22_code 29 = .ok (.aload_n 1, 1) := by decide +kernel
theorem d19_30 : decode jdk_68_method_22_code 30 = .ok (.invokevirtual 208, 3) := by decide +kernel
theorem d19_33 : decode jdk_68_method_22_code 33 = .ok (.aload_n 0, 1) := by decide +kernel
theorem d19_34 : decode jdk_68_method_22_code 34 = .ok (.dup, 1) := by decide +kernel
theorem d19_35 : decode jdk_68_method_22_code 35 = .ok (.getfield 79, 3) := by decide +kernel
theorem d19_38 : decode jdk_68_method_22_code 38 = .ok (.iload_n 2, 1) := by decide +kernel
theorem d19_39 : decode jdk_68_method_22_code 39 = .ok (.iadd, 1) := by decide +kernel
theorem d19_40 : decode jdk_68_method_22_code 40 = .ok (.putfield 79, 3) := by decide +kernel
theorem d19_43 : decode jdk_68_method_22_code 43 = .ok (.aload_n 0, 1) := by decide +kernel
theorem d19_44 : decode jdk_68_method_22_code 44 = .ok (.areturn, 1) := by decide +kernel
theorem d18_0 : decode jdk_67_method_7_code 0 = .ok (.aload_n 0, 1) := by decide +kernel
theorem d18_1 : decode jdk_67_method_7_code 1 = .ok (.aload_n 1, 1) := by decide +kernel
theorem d18_2 : decode jdk_67_method_7_code 2 = .ok (.invokespecial 29, 3) := by decide +kernel
theorem d18_5 : decode jdk_67_method_7_code 5 = .ok (.pop, 1) := by decide +kernel
theorem d18_6 : decode jdk_67_method_7_code 6 = .ok (.aload_n 0, 1) := by decide +kernel
theorem d18_7 : decode jdk_67_method_7_code 7 = .ok (.areturn, 1) := by decide +kernel
theorem d29_0 : decode jdk_68_method_64_code 0 = .ok (.aload_n 0, 1) := by decide +kernel
theorem d29_1 : decode jdk_68_method_64_code 1 = .ok (.getfield 15, 3) := by decide +kernel
theorem d29_4 : decode jdk_68_method_64_code 4 = .ok (.areturn, 1) := by decide +kernel
theorem d31_0 : decode jdk_68_method_6_code 0 = .ok (.aload_n 0, 1) := by decide +kernel
theorem d31_1 : decode jdk_68_method_6_code 1 = .ok (.getfield 79, 3) := by decide +kernel
theorem d31_4 : decode jdk_68_method_6_code 4 = .ok (.ireturn, 1) := by decide +kernel
theorem d30_0 : decode jdk_67_method_93_code 0 = .ok (.aload_n 0, 1) := by decide +kernel
theorem d30_1 : decode jdk_67_method_93_code 1 = .ok (.invokespecial 343, 3) := by decide +kernel
theorem d30_4 : decode jdk_67_method_93_code 4 = .ok (.ireturn, 1) := by decide +kernel
theorem d32_0 : decode jdk_68_method_68_code 0 = .ok (.getstatic 18, 3) := by decide +kernel
theorem d32_3 : decode jdk_68_method_68_code 3 = .ok (.ifCond .eq 14, 3) := by decide +kernel
theorem d32_6 : decode jdk_68_method_68_code 6 = .ok (.aload_n 0, 1) := by decide +kernel
theorem d32_7 : decode jdk_68_method_68_code 7 = .ok (.getfield 22, 3) := by decide +kernel
theorem d32_10 : decode jdk_68_method_68_code 10 = .ok (.ifCond .ne 7, 3) := by decide +kernel
theorem d32_13 : decode jdk_68_method_68_code 13 = .ok (.iconst 1, 1) := by decide +kernel
theorem d32_14 : decode jdk_68_method_68_code 14 = .ok (.goto 4, 3) := by decide +kernel
theorem d32_18 : decode jdk_68_method_68_code 18 = .ok (.ireturn, 1) := by decide +kernel
theorem d35_0 : decode jdk_65_method_131_code 0 = .ok (.iload_n 1, 1) := by decide +kernel
theorem d35_1 : decode jdk_65_method_131_code 1 = .ok (.iload_n 0, 1) := by decide +kernel
theorem d35_2 : decode jdk_65_method_131_code 2 = .ok (.if_icmp .ge 35, 3) := by decide +kernel
theorem d35_37 : decode jdk_65_method_131_code 37 = .ok (.return_, 1) := by decide +kernel
theorem d36_0 : decode jdk_29_method_69_code 0 = .ok (.iload_n 0, 1) := by decide +kernel
theorem d36_1 : decode jdk_29_method_69_code 1 = .ok (.iload_n 1, 1) := by decide +kernel
theorem d36_2 : decode jdk_29_method_69_code 2 = .ok (.if_icmp .gt 7, 3) := by decide +kernel
theorem d36_9 : decode jdk_29_method_69_code 9 = .ok (.iload_n 1, 1) := by decide +kernel
theorem d36_10 : decode jdk_29_method_69_code 10 = .ok (.ireturn, 1) := by decide +kernel
theorem d34_0 : decode jdk_65_method_133_code 0 = .ok (.iload_n 1, 1) := by decide +kernel
theorem d34_1 : decode jdk_65_method_133_code 1 = .ok (.iload_n 2, 1) := by decide +kernel
theorem d34_2 : decode jdk_65_method_133_code 2 = .ok (.invokestatic 343, 3) := by decide +kernel
theorem d34_5 : decode jdk_65_method_133_code 5 = .ok (.iload_n 2, 1) := by decide +kernel
theorem d34_6 : decode jdk_65_method_133_code 6 = .ok (.iload_n 1, 1) := by decide +kernel
theorem d34_7 : decode jdk_65_method_133_code 7 = .ok (.isub, 1) := by decide +kernel
theorem d34_8 : decode jdk_65_method_133_code 8 = .ok (.istore_n 3, 1) := by decide +kernel
theorem d34_9 : decode jdk_65_method_133_code 9 = .ok (.iload_n 3, 1) := by decide +kernel
theorem d34_10 : decode jdk_65_method_133_code 10 = .ok (.newarray .byte, 2) := by decide +kernel
theorem d34_12 : decode jdk_65_method_133_code 12 = .ok (.astore 4, 2) := by decide +kernel
theorem d34_14 : decode jdk_65_method_133_code 14 = .ok (.aload_n 0, 1) := by decide +kernel
theorem d34_15 : decode jdk_65_method_133_code 15 = .ok (.iload_n 1, 1) := by decide +kernel
theorem d34_16 : decode jdk_65_method_133_code 16 = .ok (.aload 4, 2) := by decide +kernel
theorem d34_18 : decode jdk_65_method_133_code 18 = .ok (.iconst 0, 1) := by decide +kernel
theorem d34_19 : decode jdk_65_method_133_code 19 = .ok (.aload_n 0, 1) := by decide +kernel
theorem d34_20 : decode jdk_65_method_133_code 20 = .ok (.arraylength, 1) := by decide +kernel
theorem d34_21 : decode jdk_65_method_133_code 21 = .ok (.iload_n 1, 1) := by decide +kernel
theorem d34_22 : decode jdk_65_method_133_code 22 = .ok (.isub, 1) := by decide +kernel
theorem d34_23 : decode jdk_65_method_133_code 23 = .ok (.iload_n 3, 1) := by decide +kernel
theorem d34_24 : decode jdk_65_method_133_code 24 = .ok (.invokestatic 304, 3) := by decide +kernel
theorem d34_27 : decode jdk_65_method_133_code 27 = .ok (.invokestatic 150, 3) := by decide +kernel
theorem d34_30 : decode jdk_65_method_133_code 30 = .ok (.aload 4, 2) := by decide +kernel
theorem d34_32 : decode jdk_65_method_133_code 32 = .ok (.areturn, 1) := by decide +kernel
theorem d33_0 : decode jdk_65_method_132_code 0 = .ok (.iload_n 1, 1) := by decide +kernel
theorem d33_1 : decode jdk_65_method_132_code 1 = .ok (.ifCond .ne 9, 3) := by decide +kernel
theorem d33_4 : decode jdk_65_method_132_code 4 = .ok (.iload_n 2, 1) := by decide +kernel
theorem d33_5 : decode jdk_65_method_132_code 5 = .ok (.aload_n 0, 1) := by decide +kernel
theorem d33_6 : decode jdk_65_method_132_code 6 = .ok (.arraylength, 1) := by decide +kernel
theorem d33_7 : decode jdk_65_method_132_code 7 = .ok (.if_icmp .eq 10, 3) := by decide +kernel
theorem d33_10 : decode jdk_65_method_132_code 10 = .ok (.aload_n 0, 1) := by decide +kernel
theorem d33_11 : decode jdk_65_method_132_code 11 = .ok (.iload_n 1, 1) := by decide +kernel
theorem d33_12 : decode jdk_65_method_132_code 12 = .ok (.iload_n 2, 1) := by decide +kernel
theorem d33_13 : decode jdk_65_method_132_code 13 = .ok (.invokestatic 339, 3) := by decide +kernel
theorem d33_16 : decode jdk_65_method_132_code 16 = .ok (.areturn, 1) := by decide +kernel
theorem d28_0 : decode jdk_42_method_150_code 0 = .ok (.aload_n 0, 1) := by decide +kernel
theorem d28_1 : decode jdk_42_method_150_code 1 = .ok (.invokespecial 1, 3) := by decide +kernel
theorem d28_4 : decode jdk_42_method_150_code 4 = .ok (.aload_n 1, 1) := by decide +kernel
theorem d28_5 : decode jdk_42_method_150_code 5 = .ok (.invokevirtual 552, 3) := by decide +kernel
theorem d28_8 : decode jdk_42_method_150_code 8 = .ok (.astore_n 3, 1) := by decide +kernel
theorem d28_9 : decode jdk_42_method_150_code 9 = .ok (.aload_n 1, 1) := by decide +kernel
theorem d28_10 : decode jdk_42_method_150_code 10 = .ok (.invokevirtual 549, 3) := by decide +kernel
theorem d28_13 : decode jdk_42_method_150_code 13 = .ok (.istore 4, 2) := by decide +kernel
theorem d28_15 : decode jdk_42_method_150_code 15 = .ok (.aload_n 1, 1) := by decide +kernel
theorem d28_16 : decode jdk_42_method_150_code 16 = .ok (.invokevirtual 1047, 3) := by decide +kernel
theorem d28_19 : decode jdk_42_method_150_code 19 = .ok (.ifCond .eq 22, 3) := by decide +kernel
theorem d28_22 : decode jdk_42_method_150_code 22 = .ok (.aload_n 0, 1) := by decide +kernel
theorem d28_23 : decode jdk_42_method_150_code 23 = .ok (.iconst 0, 1) := by decide +kernel
theorem d28_24 : decode jdk_42_method_150_code 24 = .ok (.putfield 15, 3) := by decide +kernel
theorem d28_27 : decode jdk_42_method_150_code 27 = .ok (.aload_n 0, 1) := by decide +kernel
theorem d28_28 : decode jdk_42_method_150_code 28 = .ok (.aload_n 3, 1) := by decide +kernel
theorem d28_29 : decode jdk_42_method_150_code 29 = .ok (.iconst 0, 1) := by decide +kernel
theorem d28_30 : decode jdk_42_method_150_code 30 = .ok (.iload 4, 2) := by decide +kernel
theorem d28_32 : decode jdk_42_method_150_code 32 = .ok (.invokestatic 54, 3) := by decide +kernel
theorem d28_35 : decode jdk_42_method_150_code 35 = .ok (.putfield 9, 3) := by decide +kernel
theorem d28_38 : decode jdk_42_method_150_code 38 = .ok (.goto 59, 3) := by decide +kernel
theorem d28_97 : decode jdk_42_method_150_code 97 = .ok (.return_, 1) := by decide +kernel
theorem d27_0 : decode jdk_42_method_53_code 0 = .ok (.aload_n 0, 1) := by decide +kernel
theorem d27_1 : decode jdk_42_method_53_code 1 = .ok (.aload_n 1, 1) := by decide +kernel
theorem d27_2 : decode jdk_42_method_53_code 2 = .ok (.aconst_null, 1) := by decide +kernel
theorem d27_3 : decode jdk_42_method_53_code 3 = .ok (.invokespecial 489, 3) := by decide +kernel
theorem d27_6 : decode jdk_42_method_53_code 6 = .ok (.return_, 1) := by decide +kernel
theorem d26_0 : decode jdk_67_method_42_code 0 = .ok (.new 18, 3) := by decide +kernel
theorem d26_3 : decode jdk_67_method_42_code 3 = .ok (.dup, 1) := by decide +kernel
theorem d26_4 : decode jdk_67_method_42_code 4 = .ok (.aload_n 0, 1) := by decide +kernel
theorem d26_5 : decode jdk_67_method_42_code 5 = .ok (.invokespecial 137, 3) := by decide +kernel
theorem d26_8 : decode jdk_67_method_42_code 8 = .ok (.areturn, 1) := by decide +kernel
theorem d14_0 : decode prog_34_method_3_code 0 = .ok (.aload_n 0, 1) := by decide +kernel
theorem d14_1 : decode prog_34_method_3_code 1 = .ok (.getfield 13, 3) := by decide +kernel
theorem d14_4 : decode prog_34_method_3_code 4 = .ok (.invokevirtual 30, 3) := by decide +kernel
theorem d14_7 : decode prog_34_method_3_code 7 = .ok (.ifCond .eq 34, 3) := by decide +kernel
theorem d14_41 : decode prog_34_method_3_code 41 = .ok (.new 36, 3) := by decide +kernel
theorem d14_44 : decode prog_34_method_3_code 44 = .ok (.dup, 1) := by decide +kernel
theorem d14_45 : decode prog_34_method_3_code 45 = .ok (.invokespecial 38, 3) := by decide +kernel
theorem d14_48 : decode prog_34_method_3_code 48 = .ok (.aload_n 1, 1) := by decide +kernel
theorem d14_49 : decode prog_34_method_3_code 49 = .ok (.invokevirtual 39, 3) := by decide +kernel
theorem d14_52 : decode prog_34_method_3_code 52 = .ok (.ldc 50, 2) := by decide +kernel
theorem d14_54 : decode prog_34_method_3_code 54 = .ok (.invokevirtual 39, 3) := by decide +kernel
theorem d14_57 : decode prog_34_method_3_code 57 = .ok (.invokevirtual 47, 3) := by decide +kernel
theorem d14_60 : decode prog_34_method_3_code 60 = .ok (.areturn, 1) := by decide +kernel
theorem d44_0 : decode jdk_29_method_65_code 0 = .ok (.iload_n 0, 1) := by decide +kernel
theorem d44_1 : decode jdk_29_method_65_code 1 = .ok (.iload_n 1, 1) := by decide +kernel
theorem d44_2 : decode jdk_29_method_65_code 2 = .ok (.if_icmp .lt 7, 3) := by decide +kernel
theorem d44_9 : decode jdk_29_method_65_code 9 = .ok (.iload_n 1, 1) := by decide +kernel
theorem d44_10 : decode jdk_29_method_65_code 10 = .ok (.ireturn, 1) := by decide +kernel
theorem d43_0 : decode jdk_48_method_27_code 0 = .ok (.iload_n 0, 1) := by decide +kernel
theorem d43_1 : decode jdk_48_method_27_code 1 = .ok (.iload_n 1, 1) := by decide +kernel
theorem d43_2 : decode jdk_48_method_27_code 2 = .ok (.iload_n 2, 1) := by decide +kernel
theorem d43_3 : decode jdk_48_method_27_code 3 = .ok (.invokestatic 194, 3) := by decide +kernel
theorem d43_6 : decode jdk_48_method_27_code 6 = .ok (.iadd, 1) := by decide +kernel
theorem d43_7 : decode jdk_48_method_27_code 7 = .ok (.istore_n 3, 1) := by decide +kernel
theorem d43_8 : decode jdk_48_method_27_code 8 = .ok (.iconst 0, 1) := by decide +kernel
theorem d43_9 : decode jdk_48_method_27_code 9 = .ok (.iload_n 3, 1) := by decide +kernel
theorem d43_10 : decode jdk_48_method_27_code 10 = .ok (.if_icmp .ge 11, 3) := by decide +kernel
theorem d43_13 : decode jdk_48_method_27_code 13 = .ok (.iload_n 3, 1) := by decide +kernel
theorem d43_14 : decode jdk_48_method_27_code 14 = .ok (.ldc 200, 2) := by decide +kernel
theorem d43_16 : decode jdk_48_method_27_code 16 = .ok (.if_icmp .gt 5, 3) := by decide +kernel
theorem d43_19 : decode jdk_48_method_27_code 19 = .ok (.iload_n 3, 1) := by decide +kernel
theorem d43_20 : decode jdk_48_method_27_code 20 = .ok (.ireturn, 1) := by decide +kernel
theorem d42_0 : decode jdk_68_method_10_code 0 = .ok (.aload_n 0, 1) := by decide +kernel
theorem d42_1 : decode jdk_68_method_10_code 1 = .ok (.getfield 15, 3) := by decide +kernel
theorem d42_4 : decode jdk_68_method_10_code 4 = .ok (.arraylength, 1) := by decide +kernel
theorem d42_5 : decode jdk_68_method_10_code 5 = .ok (.istore_n 2, 1) := by decide +kernel
theorem d42_6 : decode jdk_68_method_10_code 6 = .ok (.iload_n 1, 1) := by decide +kernel
theorem d42_7 : decode jdk_68_method_10_code 7 = .ok (.aload_n 0, 1) := by decide +kernel
theorem d42_8 : decode jdk_68_method_10_code 8 = .ok (.getfield 22, 3) := by decide +kernel
theorem d42_11 : decode jdk_68_method_10_code 11 = .ok (.ishl, 1) := by decide +kernel
theorem d42_12 : decode jdk_68_method_10_code 12 = .ok (.istore_n 3, 1) := by decide +kernel
theorem d42_13 : decode jdk_68_method_10_code 13 = .ok (.iload_n 3, 1) := by decide +kernel
theorem d42_14 : decode jdk_68_method_10_code 14 = .ok (.iload_n 2, 1) := by decide +kernel
theorem d42_15 : decode jdk_68_method_10_code 15 = .ok (.isub, 1) := by decide +kernel
theorem d42_16 : decode jdk_68_method_10_code 16 = .ok (.istore 4, 2) := by decide +kernel
theorem d42_18 : decode jdk_68_method_10_code 18 = .ok (.iload_n 2, 1) := by decide +kernel
theorem d42_19 : decode jdk_68_method_10_code 19 = .ok (.iload 4, 2) := by decide +kernel
theorem d42_21 : decode jdk_68_method_10_code 21 = .ok (.iload_n 2, 1) := by decide +kernel
theorem d42_22 : decode jdk_68_method_10_code 22 = .ok (.iconst 2, 1) := by decide +kernel
theorem d42_23 : decode jdk_68_method_10_code 23 = .ok (.aload_n 0, 1) := by decide +kernel
theorem d42_24 : decode jdk_68_method_10_code 24 = .ok (.getfield 22, 3) := by decide +kernel
theorem d42_27 : decode jdk_68_method_10_code 27 = .ok (.ishl, 1) := by decide +kernel
theorem d42_28 : decode jdk_68_method_10_code 28 = .ok (.iadd, 1) := by decide +kernel
theorem d42_29 : decode jdk_68_method_10_code 29 = .ok (.invokestatic 114, 3) := by decide +kernel
theorem d42_32 : decode jdk_68_method_10_code 32 = .ok (.istore 5, 2) := by decide +kernel
theorem d42_34 : decode jdk_68_method_10_code 34 = .ok (.iload 5, 2) := by decide +kernel
theorem d42_36 : decode jdk_68_method_10_code 36 = .ok (.ldc 39, 2) := by decide +kernel
theorem d42_38 : decode jdk_68_method_10_code 38 = .ok (.if_icmp .ne 13, 3) := by decide +kernel
theorem d42_51 : decode jdk_68_method_10_code 51 = .ok (.iload 5, 2) := by decide +kernel
theorem d42_53 : decode jdk_68_method_10_code 53 = .ok (.aload_n 0, 1) := by decide +kernel
theorem d42_54 : decode jdk_68_method_10_code 54 = .ok (.getfield 22, 3) := by decide +kernel
theorem d42_57 : decode jdk_68_method_10_code 57 = .ok (.ishr, 1) := by decide +kernel
theorem d42_58 : decode jdk_68_method_10_code 58 = .ok (.ireturn, 1) := by decide +kernel
theorem d36_5 : decode jdk_29_method_69_code 5 = .ok (.iload_n 0, 1) := by decide +kernel
theorem d36_6 : decode jdk_29_method_69_code 6 = .ok (.goto 4, 3) := by decide +kernel
theorem d45_0 : decode jdk_65_method_121_code 0 = .ok (.iload_n 1, 1) := by decide +kernel
theorem d45_1 : decode jdk_65_method_121_code 1 = .ok (.aload_n 0, 1) := by decide +kernel
theorem d45_2 : decode jdk_65_method_121_code 2 = .ok (.arraylength, 1) := by decide +kernel
theorem d45_3 : decode jdk_65_method_121_code 3 = .ok (.if_icmp .ne 11, 3) := by decide +kernel
theorem d45_14 : decode jdk_65_method_121_code 14 = .ok (.iload_n 1, 1) := by decide +kernel
theorem d45_15 : decode jdk_65_method_121_code 15 = .ok (.newarray .byte, 2) := by decide +kernel
theorem d45_17 : decode jdk_65_method_121_code 17 = .ok (.astore_n 2, 1) := by decide +kernel
theorem d45_18 : decode jdk_65_method_121_code 18 = .ok (.aload_n 0, 1) := by decide +kernel
theorem d45_19 : decode jdk_65_method_121_code 19 = .ok (.iconst 0, 1) := by decide +kernel
theorem d45_20 : decode jdk_65_method_121_code 20 = .ok (.aload_n 2, 1) := by decide +kernel
theorem d45_21 : decode jdk_65_method_121_code 21 = .ok (.iconst 0, 1) := by decide +kernel
theorem d45_22 : decode jdk_65_method_121_code 22 = .ok (.aload_n 0, 1) := by decide +kernel
theorem d45_23 : decode jdk_65_method_121_code 23 = .ok (.arraylength, 1) := by decide +kernel
theorem d45_24 : decode jdk_65_method_121_code 24 = .ok (.iload_n 1, 1) := by decide +kernel
theorem d45_25 : decode jdk_65_method_121_code 25 = .ok (.invokestatic 304, 3) := by decide +kernel
theorem d45_28 : decode jdk_65_method_121_code 28 = .ok (.invokestatic 150, 3) := by decide +kernel
theorem d45_31 : decode jdk_65_method_121_code 31 = .ok (.aload_n 2, 1) := by decide +kernel
theorem d45_32 : decode jdk_65_method_121_code 32 = .ok (.areturn, 1) := by decide +kernel
theorem d22_17 : decode jdk_68_method_9_code 17 = .ok (.aload_n 0, 1) := by decide +kernel
theorem d22_18 : decode jdk_68_method_9_code 18 = .ok (.aload_n 0, 1) := by decide +kernel
theorem d22_19 : decode jdk_68_method_9_code 19 = .ok (.getfield 15, 3) := by decide +kernel
theorem d22_22 : decode jdk_68_method_9_code 22 = .ok (.aload_n 0, 1) := by decide +kernel
theorem d22_23 : decode jdk_68_method_9_code 23 = .ok (.iload_n 1, 1) := by decide +kernel
theorem d22_24 : decode jdk_68_method_9_code 24 = .ok (.invokevirtual 104, 3) := by decide +kernel
theorem d22_27 : decode jdk_68_method_9_code 27 = .ok (.aload_n 0, 1) := by decide +kernel
theorem d22_28 : decode jdk_68_method_9_code 28 = .ok (.getfield 22, 3) := by decide +kernel
theorem d22_31 : decode jdk_68_method_9_code 31 = .ok (.ishl, 1) := by decide +kernel
theorem d22_32 : decode jdk_68_method_9_code 32 = .ok (.invokestatic 108, 3) := by decide +kernel
theorem d22_35 : decode jdk_68_method_9_code 35 = .ok (.putfield 15, 3) := by decide +kernel
theorem d14_10 : decode prog_34_method_3_code 10 = .ok (.new 36, 3) := by decide +kernel
theorem d14_13 : decode prog_34_method_3_code 13 = .ok (.dup, 1) := by decide +kernel
theorem d14_14 : decode prog_34_method_3_code 14 = .ok (.invokespecial 38, 3) := by decide +kernel
theorem d14_17 : decode prog_34_method_3_code 17 = .ok (.aload_n 1, 1) := by decide +kernel
theorem d14_18 : decode prog_34_method_3_code 18 = .ok (.invokevirtual 39, 3) := by decide +kernel
theorem d14_21 : decode prog_34_method_3_code 21 = .ok (.ldc 43, 2) := by decide +kernel
theorem d14_23 : decode prog_34_method_3_code 23 = .ok (.invokevirtual 39, 3) := by decide +kernel
theorem d14_26 : decode prog_34_method_3_code 26 = .ok (.aload_n 1, 1) := by decide +kernel
theorem d14_27 : decode prog_34_method_3_code 27 = .ok (.invokevirtual 39, 3) := by decide +kernel
theorem d14_30 : decode prog_34_method_3_code 30 = .ok (.ldc 45, 2) := by decide +kernel
theorem d14_32 : decode prog_34_method_3_code 32 = .ok (.invokevirtual 39, 3) := by decide +kernel
theorem d14_35 : decode prog_34_method_3_code 35 = .ok (.invokevirtual 47, 3) := by decide +kernel
theorem d14_38 : decode prog_34_method_3_code 38 = .ok (.goto 22, 3) := by decide +kernel
abbrev kS0 : String := "java/lang/AbstractStringBuilder"
abbrev kS1 : String := "java/lang/String"
abbrev kS2 : String := "java/lang/StringBuilder"
def Qrm_can (Z : State) (p0 : Int32) (h0 : Heap) (n0 : Nat) (v : Option Value) (h : Heap) (L : List Loc) : Prop := v = some (.int 1) ∧ Fr n0 L ∧ h = h0
theorem ef_rm_can (m : MethodId) (x0 : Int32) : entryFrame m #[(.int x0)] 1 = mkF m 0 #[.val (.int x0)] [] := by first | rfl | (simp [entryFrame, mkF, argsToLocals, Value.category]; done)
theorem rm_can (l : Launch) (Z : State) (a0 : Array Value) (hw : HW Z a0) (ws : List Jvm.Cond) (p0 : Int32) (h0 : Heap) (n0 : Nat) (Z0 : n0 ≤ h0.size) (hp : (¬ p0 < 0 ∧ ¬ (255 : Int32) < p0)) :
  OwnM l Z h0 (⟨"java/lang/StringLatin1", "canEncode", "(C)Z"⟩ : MethodName) (Jvm.Cond.code (⟨"java/lang/StringLatin1", "canEncode", "(C)Z"⟩ : MethodName) jdk_43_method_3_code 1 (some .boolean) :: ws) (RM 0 0 0 0) #[(.int p0)] (Qrm_can Z p0 h0 n0) := by
 refine MetFree.of_bodySF (plainFor_of_name pn_0) hisR ?_
 intro p e s m args below meth c s₁ Bd hml0 hP hK
 obtain ⟨rfl, hZ, hh⟩ := hP
 have hx := Bd.exec
 have hby := Bd.bytes
 have hml : c.maxLocals = 1 := hml0
 have hown : s.vm.findClass "java/lang/StringLatin1" = some m.cls := findClass_of_methodNamed Bd.named
 have hnm := (name_of_methodNamed Bd.named Bd.method).1
 have X0 : Stand p l e (RM 0 0 0 0) s m #[(.int p0)] below meth c s₁ [] 0 0 := Stand.of_body Bd
 have e0 : s₁.heap = h0 := by rw [← hh, Bd.state]; rfl
 have N0 := Fr.nil n0
 have pre0 : ∀ t, GO p e below s₁ (mkF m 0 #[.val (.int p0)] []) t → GO p e below s₁ (entryFrame m #[(.int p0)] 1) t := fun t k => castTop (ef_rm_can m p0) k
 obtain ⟨fs, hr, hrun, hended, hW, hsame⟩ := X0.leave (v := some (.int 1)) (fun h => by rw [Bd.returns] at h; cases h)
 refine ⟨_, _, pre0 _ ?_, hrun, hended, _, _, rfl, ?_, ⟨_, rfl⟩, hW, hsame.mono (by decide) (by decide)⟩
 ·show GO p e below s₁ (mkF m 0 #[.val (.int p0)] []) _
  refine XS.iloadN X0.here hx rfl (hb hby d9_0) rfl ?_
  show GO p e below s₁ (mkF m 1 #[.val (.int p0)] [(.int p0)]) _
  refine XS.sipush X0.here hx rfl (hb hby d9_1) ?_
  show GO p e below s₁ (mkF m 4 #[.val (.int p0)] [(.int 255), (.int p0)]) _
  refine XS.icmpNo X0.here hx rfl (hb hby d9_4) rfl (flt (hp.2 : ¬ ((255 : Int32) < p0))).2.2.1 ?_
  show GO p e below s₁ (mkF m 7 #[.val (.int p0)] []) _
  refine XS.iconst X0.here hx rfl (hb hby d9_7) ?_
  show GO p e below s₁ (mkF m 8 #[.val (.int p0)] [(.int 1)]) _
  refine XS.goto X0.here hx rfl (pc0 := 8) (pc' := 12) rfl (hb hby d9_8) (by decide) (by decide) ?_
  show GO p e below s₁ (mkF m 12 #[.val (.int p0)] [(.int 1)]) _
  exact retN X0 hx (t := .boolean) Bd.returns (by simp) (hb hby d9_12) hr
 ·show Qrm_can Z p0 h0 n0 _ s₁.heap _
  rw [e0]
  exact ⟨rfl, N0, rfl⟩
def Qrm_tb (Z : State) (p0 : Int32) (h0 : Heap) (n0 : Nat) (v : Option Value) (h : Heap) (L : List Loc) : Prop := ∃ t : Addr, v = some (.ref t) ∧ Fr n0 L ∧ Keep h0 h [] ∧ h0.size ≤ t
theorem ef_rm_tb (m : MethodId) (x0 : Int32) : entryFrame m #[(.int x0)] 1 = mkF m 0 #[.val (.int x0)] [] := by first | rfl | (simp [entryFrame, mkF, argsToLocals, Value.category]; done)
theorem rm_tb (l : Launch) (Z : State) (a0 : Array Value) (hw : HW Z a0) (ws : List Jvm.Cond) (p0 : Int32) (h0 : Heap) (n0 : Nat) (Z0 : n0 ≤ h0.size) :
  OwnM l Z h0 (⟨"java/lang/StringLatin1", "toBytes", "(C)[B"⟩ : MethodName) (Jvm.Cond.code (⟨"java/lang/StringLatin1", "toBytes", "(C)[B"⟩ : MethodName) jdk_43_method_46_code 1 (some (.array .byte)) :: ws) (RM 0 1 1 0) #[(.int p0)] (Qrm_tb Z p0 h0 n0) := by
 refine MetFree.of_bodySF (plainFor_of_name pn_0) hisR ?_
 intro p e s m args below meth c s₁ Bd hml0 hP hK
 obtain ⟨rfl, hZ, hh⟩ := hP
 have hx := Bd.exec
 have hby := Bd.bytes
 have hml : c.maxLocals = 1 := hml0
 have hown : s.vm.findClass "java/lang/StringLatin1" = some m.cls := findClass_of_methodNamed Bd.named
 have hnm := (name_of_methodNamed Bd.named Bd.method).1
 have X0 : Stand p l e (RM 0 1 1 0) s m #[(.int p0)] below meth c s₁ [] 0 0 := Stand.of_body Bd
 have e0 : s₁.heap = h0 := by rw [← hh, Bd.state]; rfl
 have N0 := Fr.nil n0
 have pre0 : ∀ t, GO p e below s₁ (mkF m 0 #[.val (.int p0)] []) t → GO p e below s₁ (entryFrame m #[(.int p0)] 1) t := fun t k => castTop (ef_rm_tb m p0) k
 obtain ⟨T1, h1, k1, X1, e1, E1, A1, st1⟩ := newP X0 hx hZ (wd hw 19 rfl) e0 (g := (mkF m 1 #[.val (.int p0)] [(.int 1)])) rfl (hb hby d10_1) rfl (by decide) (cap := 1) (by decide) (by decide) (by decide) (by decide)
 obtain ⟨b1, g1⟩ : ∃ z, z = h0.size := ⟨_, rfl⟩
 rw [← g1] at A1 st1
 have sz1 : h0.size ≤ h1.size := E1.1
 have nz1 := Nat.le_trans Z0 sz1
 have lt1 := ltA A1.lt
 have V1 : Arv Z h1 b1 k1 .byte (1 : Int32) [(.int 0)] (.int 0) := (Arv.new A1 (by decide)).pad (pad_rep [] (.int 0) 1)
 obtain ⟨cl2, Ar2, q2, S2, M2, H2, G2⟩ := id V1
 have hin2 : ¬ ((0 : Int32) < 0 ∨ cl2.slots.size ≤ ((0 : Int32)).toNatClampNeg) := inb_of S2 ⟨by decide, by decide⟩
 obtain ⟨T3, h3, X3, e3, W3, st3⟩ := stB X1 hx hZ e1 Ar2 (j := (0 : Int32)) hin2 (g := (mkF m 7 #[.val (.int p0)] [(.int (p0.toInt8.toInt32)), (.int 0), (.ref b1), (.ref b1)])) rfl rfl (hb hby d10_7)
 have ge4 : n0 ≤ b1 := by omega
 have N3 := Fr.snoc X3 N0 ge4
 have sz3 : h1.size ≤ h3.size := Nat.le_of_eq W3.size.symm
 have nz3 := Nat.le_trans nz1 sz3
 have V3 : Arv Z h3 b1 k1 .byte (1 : Int32) [(.int (nar .byte (p0.toInt8.toInt32)))] (.int 0) := Arv.set Ar2 q2 S2 M2 H2 G2 (fits_nar_byte _) W3 0 rfl (Nat.le_of_ble_eq_true rfl)
 obtain ⟨fs, hr, hrun, hended, hW, hsame⟩ := X3.leave (v := some (.ref b1)) (fun h => by rw [Bd.returns] at h; cases h)
 refine ⟨_, _, pre0 _ ?_, hrun, hended, _, _, rfl, ?_, ⟨_, rfl⟩, hW, hsame.mono (by decide) (by decide)⟩
 ·show GO p e below s₁ (mkF m 0 #[.val (.int p0)] []) _
  refine XS.iconst X0.here hx rfl (hb hby d10_0) ?_
  show GO p e below s₁ (mkF m 1 #[.val (.int p0)] [(.int 1)]) _
  refine st1 _ ?_
  show GO p e below T1 (mkF m 3 #[.val (.int p0)] [(.ref b1)]) _
  refine XS.dup X1.here hx rfl (hb hby d10_3) rfl rfl ?_
  show GO p e below T1 (mkF m 4 #[.val (.int p0)] [(.ref b1), (.ref b1)]) _
  refine XS.iconst X1.here hx rfl (hb hby d10_4) ?_
  show GO p e below T1 (mkF m 5 #[.val (.int p0)] [(.int 0), (.ref b1), (.ref b1)]) _
  refine XS.iloadN X1.here hx rfl (hb hby d10_5) rfl ?_
  show GO p e below T1 (mkF m 6 #[.val (.int p0)] [(.int p0), (.int 0), (.ref b1), (.ref b1)]) _
  refine XS.i2b X1.here hx rfl (hb hby d10_6) rfl ?_
  show GO p e below T1 (mkF m 7 #[.val (.int p0)] [(.int (p0.toInt8.toInt32)), (.int 0), (.ref b1), (.ref b1)]) _
  refine st3 _ ?_
  show GO p e below T3 (mkF m 8 #[.val (.int p0)] [(.ref b1)]) _
  exact retOut X3 hx Bd.returns rfl (Or.inr (Or.inr (Or.inr (Or.inr ⟨rfl, rfl, rfl⟩)))) (hb hby d10_8) hr
 ·show Qrm_tb Z p0 h0 n0 _ T3.heap _
  rw [e3]
  exact ⟨b1, rfl, N3, (((Keep.refl h0 []).ext E1).wr W3 (Or.inr (by omega))), (by omega)⟩
def Qrm_sbb (Z : State) (a1 : Addr) (a2 : Addr) (u1 : Value) (u2 : Value) (h0 : Heap) (n0 : Nat) (v : Option Value) (h : Heap) (L : List Loc) : Prop := v = none ∧ Fr n0 L ∧ Keep h0 h [a1] ∧ Exa Z h a1 kS1
theorem ef_rm_sbb (m : MethodId) (x0 : Addr) (x1 : Addr) (x2 : Int32) : entryFrame m #[(.ref x0), (.ref x1), (.int x2)] 3 = mkF m 0 (la0 x0 x1 x2) [] := by first | rfl | (simp [entryFrame, mkF, argsToLocals, Value.category]; done)
theorem rm_sbb (l : Launch) (Z : State) (a0 : Array Value) (hw : HW Z a0) (ws : List Jvm.Cond) (a1 : Addr) (a2 : Addr) (u1 : Value) (u2 : Value) (h0 : Heap) (n0 : Nat) (Z0 : n0 ≤ h0.size) (E1 : Exa Z h0 a1 kS1) (Fv1 : Fld Z h0 a1 kS1 "value" "[B" u1) (Fc1 : Fld Z h0 a1 kS1 "coder" "B" u2) (g1 : n0 ≤ a1) :
  OwnM l Z h0 (⟨kS1, "<init>", "([BB)V"⟩ : MethodName) (Jvm.Cond.code (⟨kS1, "<init>", "([BB)V"⟩ : MethodName) jdk_42_method_151_code 3 none :: ws) (RM 1 0 0 12) #[(.ref a1), (.ref a2), (.int 0)] (Qrm_sbb Z a1 a2 u1 u2 h0 n0) := by
 refine MetFree.of_bodySF (plainFor_of_name pn_1) hisR ?_
 intro p e s m args below meth c s₁ Bd hml0 hP hK
 obtain ⟨rfl, hZ, hh⟩ := hP
 have hx := Bd.exec
 have hby := Bd.bytes
 have hml : c.maxLocals = 3 := hml0
 have hown : s.vm.findClass kS1 = some m.cls := findClass_of_methodNamed Bd.named
 have hnm := (name_of_methodNamed Bd.named Bd.method).1
 have X0 : Stand p l e (RM 1 0 0 12) s m #[(.ref a1), (.ref a2), (.int 0)] below meth c s₁ [] 0 0 := Stand.of_body Bd
 have e0 : s₁.heap = h0 := by rw [← hh, Bd.state]; rfl
 have N0 := Fr.nil n0
 have pre0 : ∀ t, GO p e below s₁ (mkF m 0 (la0 a1 a2 (0 : Int32)) []) t → GO p e below s₁ (entryFrame m #[(.ref a1), (.ref a2), (.int 0)] 3) t := fun t k => castTop (ef_rm_sbb m a1 a2 ((0 : Int32))) k
 have lt_E1 := ltA E1.lt
 have lt_Fv1 := ltA Fv1.lt
 have lt_Fc1 := ltA Fc1.lt
 obtain ⟨T5, X5, e5, st5⟩ := initO X0 hx hZ hown (wd hw 11 rfl) (wd hw 12 rfl) (wd hw 13 rfl) e0 (g := (mkF m 1 (la0 a1 a2 (0 : Int32)) [(.ref a1)])) rfl (by rw [hml]; rfl) rfl (hb hby d11_1) (by decide) (W := 0) (wz rfl) (by decide)
 obtain ⟨T6, h6, X6, e6, W6, st6⟩ := putF X5 hx hZ hown (host := "") (Or.inl (wd hw 28 rfl)) Via.refl e5 Fv1 E1 (Or.inr ⟨(wd hw 29 rfl), rfl, hnm⟩) (wd hw 1 rfl) (ty := (.array .byte)) (by decide) rfl rfl (g := (mkF m 6 (la0 a1 a2 (0 : Int32)) [(.ref a2), (.ref a1)])) rfl rfl (hb hby d11_6)
 have ge7 : n0 ≤ a1 := by omega
 have N6 := Fr.snoc X6 N0 ge7
 have sz6 : h0.size ≤ h6.size := Nat.le_of_eq W6.size.symm
 have nz6 := Nat.le_trans Z0 sz6
 have f6 : Fld Z h6 a1 kS1 "value" "[B" (.ref a2) := Fv1.same W6
 have f8 : Fld Z h6 a1 kS1 "coder" "B" u2 := (Fc1.other W6 (Or.inr (slot_ne (Or.inr (wd hw 27 rfl)) (Or.inr (wd hw 29 rfl)) (by decide) (t := .byte) (t' := (.array .byte)) (by decide) (by decide))))
 have f9 : Exa Z h6 a1 kS1 := (E1.wr W6)
 obtain ⟨T10, h10, X10, e10, W10, st10⟩ := putFN X6 hx hZ hown (wd hw 26 rfl) Via.refl e6 f8 f9 (Or.inr ⟨(wd hw 27 rfl), rfl, hnm⟩) (wd hw 1 rfl) (ty := .byte) (v' := (.int 0)) (by decide) rfl rfl (g := (mkF m 11 (la0 a1 a2 (0 : Int32)) [(.int 0), (.ref a1)])) rfl rfl (hb hby d11_11)
 have N10 := Fr.snoc X10 N6 ge7
 have sz10 : h6.size ≤ h10.size := Nat.le_of_eq W10.size.symm
 have nz10 := Nat.le_trans nz6 sz10
 have f10 : Fld Z h10 a1 kS1 "coder" "B" (.int 0) := f8.same W10
 have f11 : Exa Z h10 a1 kS1 := (f9.wr W10)
 obtain ⟨fs, hr, hrun, hended, hW, hsame⟩ := X10.leave (v := none) (fun _ => rfl)
 refine ⟨_, _, pre0 _ ?_, hrun, hended, _, _, rfl, ?_, ⟨_, rfl⟩, hW, hsame.mono (by decide) (by decide)⟩
 ·show GO p e below s₁ (mkF m 0 (la0 a1 a2 (0 : Int32)) []) _
  refine XS.aloadN X0.here hx rfl (hb hby d11_0) rfl rfl ?_
  show GO p e below s₁ (mkF m 1 (la0 a1 a2 (0 : Int32)) [(.ref a1)]) _
  refine st5 _ ?_
  show GO p e below T5 (mkF m 4 (la0 a1 a2 (0 : Int32)) []) _
  refine XS.aloadN X5.here hx rfl (hb hby d11_4) rfl rfl ?_
  show GO p e below T5 (mkF m 5 (la0 a1 a2 (0 : Int32)) [(.ref a1)]) _
  refine XS.aloadN X5.here hx rfl (hb hby d11_5) rfl rfl ?_
  show GO p e below T5 (mkF m 6 (la0 a1 a2 (0 : Int32)) [(.ref a2), (.ref a1)]) _
  refine st6 _ ?_
  show GO p e below T6 (mkF m 9 (la0 a1 a2 (0 : Int32)) []) _
  refine XS.aloadN X6.here hx rfl (hb hby d11_9) rfl rfl ?_
  show GO p e below T6 (mkF m 10 (la0 a1 a2 (0 : Int32)) [(.ref a1)]) _
  refine XS.iloadN X6.here hx rfl (hb hby d11_10) rfl ?_
  show GO p e below T6 (mkF m 11 (la0 a1 a2 (0 : Int32)) [(.int 0), (.ref a1)]) _
  refine st10 _ ?_
  show GO p e below T10 (mkF m 14 (la0 a1 a2 (0 : Int32)) []) _
  exact X10.returnOut hx Bd.returns (hb hby d11_14) hr
 ·show Qrm_sbb Z a1 a2 u1 u2 h0 n0 _ T10.heap _
  rw [e10]
  exact ⟨rfl, N10, (((Keep.refl h0 [a1]).wr W6 (Or.inl (List.mem_of_getElem? (i := 0) rfl))).wr W10 (Or.inl (List.mem_of_getElem? (i := 0) rfl))), f11⟩
def Qrm_vo (Z : State) (p0 : Int32) (z0 : Int32) (h0 : Heap) (n0 : Nat) (v : Option Value) (h : Heap) (L : List Loc) : Prop := ∃ x : Addr, v = some (.ref x) ∧ Fr n0 L ∧ Keep h0 h [] ∧ Exa Z h x kS1
theorem ef_rm_vo (m : MethodId) (x0 : Int32) : entryFrame m #[(.int x0)] 1 = mkF m 0 #[.val (.int x0)] [] := by first | rfl | (simp [entryFrame, mkF, argsToLocals, Value.category]; done)
theorem rm_vo (l : Launch) (Z : State) (a0 : Array Value) (hw : HW Z a0) (ws : List Jvm.Cond) (p0 : Int32) (z0 : Int32) (h0 : Heap) (n0 : Nat) (Z0 : n0 ≤ h0.size) (O0 : Old Z n0 h0) (SZc : Sta Z Z.heap kS1 "COMPACT_STRINGS" "Z" (.int z0)) (hz0 : ¬ z0 = 0) (hp : (¬ p0 < 0 ∧ ¬ (255 : Int32) < p0)) :
  OwnM l Z h0 (⟨kS1, "valueOf", "(C)Ljava/lang/String;"⟩ : MethodName) (Jvm.Cond.code (⟨kS1, "valueOf", "(C)Ljava/lang/String;"⟩ : MethodName) jdk_42_method_139_code 1 (some (.object kS1)) :: ws) (RM 2 2 5 27) #[(.int p0)] (Qrm_vo Z p0 z0 h0 n0) := by
 refine MetFree.of_bodySF (plainFor_of_name pn_1) hisR ?_
 intro p e s m args below meth c s₁ Bd hml0 hP hK
 obtain ⟨rfl, hZ, hh⟩ := hP
 have hx := Bd.exec
 have hby := Bd.bytes
 have hml : c.maxLocals = 1 := hml0
 have hown : s.vm.findClass kS1 = some m.cls := findClass_of_methodNamed Bd.named
 have hnm := (name_of_methodNamed Bd.named Bd.method).1
 have X0 : Stand p l e (RM 2 2 5 27) s m #[(.int p0)] below meth c s₁ [] 0 0 := Stand.of_body Bd
 have e0 : s₁.heap = h0 := by rw [← hh, Bd.state]; rfl
 have N0 := Fr.nil n0
 have pre0 : ∀ t, GO p e below s₁ (mkF m 0 #[.val (.int p0)] []) t → GO p e below s₁ (entryFrame m #[(.int p0)] 1) t := fun t k => castTop (ef_rm_vo m p0) k
 have S12 : Sta Z h0 kS1 "COMPACT_STRINGS" "Z" (.int z0) := SZc.ext O0.2
 obtain ⟨T13, X13, e13, st13⟩ := getS2 X0 hx hZ hown (host := "") (Or.inl (wd hw 14 rfl)) Via.refl e0 S12 (g := (mkF m 0 #[.val (.int p0)] [])) rfl (hb hby d8_0)
 -- pc 7: StringLatin1.canEncode by rm_can
 obtain ⟨_, _, ⟨T14, L14, k14, n14⟩, -, X14, ⟨Lc14, hQ14, l14, y14, z14⟩, st14⟩ := Jvm.LawKit.callS X13 hx (y := (⟨"java/lang/StringLatin1", "canEncode", "(C)Z"⟩ : MethodName)) hown (mvT hZ (wd hw 41 rfl)) (mvT hZ (wd hw 42 rfl)) (mvT hZ (wd hw 43 rfl)) (mvT hZ (wd hw 44 rfl)) (by decide) (backOf (W := 0) (rm_can l Z a0 hw [] p0 h0 n0 Z0 (by first | assumption | decide | omega)) hZ (wd hw 44 rfl) (wd hw 43 rfl) (by decide) (by decide)) (g := (mkF m 7 #[.val (.int p0)] [(.int p0)])) rfl (by rw [hml]; rfl) (argsL := [(.int p0)]) (rest := []) (lenOf pd_0 rfl) rfl (wz rfl) (hb hby d8_7) (fun _ _ => ⟨rfl, e13, (by decide : 0 + 0 ≤ _), (by decide : 0 + 0 ≤ _)⟩)
 dsimp only [Pt.U, Pt.locs, Pt.cells, Pt.slots] at X14 l14 y14 z14 st14 hQ14
 rw [l14, y14, z14] at X14
 obtain ⟨rfl, N14q, e14⟩ := hQ14
 have N14 := Fr.app N0 N14q
 obtain ⟨T15, h15, X15, e15, E15, A15, D15, U15, st15⟩ := newO X14 hx hZ hown (wd hw 45 rfl) (wd hw 1 rfl) (wd hw 2 rfl) e14 (g := (mkF m 13 #[.val (.int p0)] [])) rfl (hb hby d8_13) (by decide) (by decide)
 obtain ⟨b15, g15⟩ : ∃ z, z = h0.size := ⟨_, rfl⟩
 rw [← g15] at A15 D15 U15 st15
 have sz15 : h0.size ≤ h15.size := E15.1
 have nz15 := Nat.le_trans Z0 sz15
 have lt15 := ltA A15.lt
 have f16 : Fld Z h15 b15 kS1 "coder" "B" (.int 0) := D15 (Or.inr (wd hw 27 rfl)) (ty := .byte) (by decide)
 have f17 : Fld Z h15 b15 kS1 "value" "[B" .null := D15 (Or.inr (wd hw 29 rfl)) (ty := (.array .byte)) (by decide)
 -- pc 18: StringLatin1.toBytes by rm_tb
 obtain ⟨_, _, ⟨T18, L18, k18, n18⟩, -, X18, ⟨Lc18, hQ18, l18, y18, z18⟩, st18⟩ := Jvm.LawKit.callS X15 hx (y := (⟨"java/lang/StringLatin1", "toBytes", "(C)[B"⟩ : MethodName)) hown (mvT hZ (wd hw 46 rfl)) (mvT hZ (wd hw 47 rfl)) (mvT hZ (wd hw 43 rfl)) (mvT hZ (wd hw 48 rfl)) (by decide) (backOf (W := 2) (rm_tb l Z a0 hw [] p0 h15 n0 nz15) hZ (wd hw 48 rfl) (wd hw 43 rfl) (by decide) (by decide)) (g := (mkF m 18 #[.val (.int p0)] [(.int p0), (.ref b15), (.ref b15)])) rfl (by rw [hml]; rfl) (argsL := [(.int p0)]) (rest := [(.ref b15), (.ref b15)]) (lenOf pd_1 rfl) rfl (wz rfl) (hb hby d8_18) (fun _ _ => ⟨rfl, e15, (by decide : 1 + 1 ≤ _), (by decide : 4 + 1 ≤ _)⟩)
 dsimp only [Pt.U, Pt.locs, Pt.cells, Pt.slots] at X18 l18 y18 z18 st18 hQ18
 rw [l18, y18, z18] at X18
 obtain ⟨h18, e18⟩ : ∃ z, T18.heap = z := ⟨_, rfl⟩
 rw [e18] at hQ18
 obtain ⟨t_18, rfl, N18q, K18, r18_0⟩ := hQ18
 have N18 := Fr.app N14 N18q
 have sz18 : h15.size ≤ h18.size := K18.1
 have nz18 := Nat.le_trans nz15 sz18
 -- pc 22: String.<init> by rm_sbb
 have f20 : Exa Z h18 b15 kS1 := (A15.keep K18)
 have f21 : Fld Z h18 b15 kS1 "value" "[B" .null := (f17.keep K18 nin0)
 have f22 : Fld Z h18 b15 kS1 "coder" "B" (.int 0) := (f16.keep K18 nin0)
 obtain ⟨_, _, ⟨T19, L19, k19, n19⟩, -, X19, ⟨Lc19, hQ19, l19, y19, z19⟩, st19⟩ := X18.specialBack hx (y := (⟨kS1, "<init>", "([BB)V"⟩ : MethodName)) rfl hown (mvT hZ (wd hw 49 rfl)) (mvT hZ (wd hw 50 rfl)) (mvT hZ (wd hw 51 rfl)) (by decide) (backOf (W := 1) (rm_sbb l Z a0 hw [] b15 t_18 .null (.int 0) h18 n0 nz18 f20 f21 f22 (by first | assumption | decide | omega)) hZ (wd hw 51 rfl) (wd hw 2 rfl) (by decide) (by decide)) (g := (mkF m 22 #[.val (.int p0)] [(.int 0), (.ref t_18), (.ref b15), (.ref b15)])) rfl (by rw [hml]; rfl) (Steps.refl _) (a := b15) (argsL := [(.ref t_18), (.int 0)]) (rest := [(.ref b15)]) (lenOf pd_2 rfl) rfl (wz rfl) (hb hby d8_22) (fun _ _ => ⟨rfl, e18, (by decide : 2 + 0 ≤ _), (by decide : 5 + 0 ≤ _)⟩)
 dsimp only [Pt.U, Pt.locs, Pt.cells, Pt.slots] at X19 l19 y19 z19 st19 hQ19
 rw [l19, y19, z19] at X19
 obtain ⟨h19, e19⟩ : ∃ z, T19.heap = z := ⟨_, rfl⟩
 rw [e19] at hQ19
 obtain ⟨rfl, N19q, K19, p19_0⟩ := hQ19
 have N19 := Fr.app N18 N19q
 have sz19 : h18.size ≤ h19.size := K19.1
 have nz19 := Nat.le_trans nz18 sz19
 have lt19_0 := ltA p19_0.lt
 obtain ⟨fs, hr, hrun, hended, hW, hsame⟩ := X19.leave (v := some (.ref b15)) (fun h => by rw [Bd.returns] at h; cases h)
 refine ⟨_, _, pre0 _ ?_, hrun, hended, _, _, rfl, ?_, ⟨_, rfl⟩, hW, hsame.mono (by decide) (by decide)⟩
 ·show GO p e below s₁ (mkF m 0 #[.val (.int p0)] []) _
  refine st13 _ ?_
  show GO p e below T13 (mkF m 3 #[.val (.int p0)] [(.int z0)]) _
  refine XS.ifNo X13.here hx rfl (hb hby d8_3) rfl ((if0 _ _).trans (feq ((by first | assumption | decide) : ¬ (z0 = (0 : Int32)))).1) ?_
  show GO p e below T13 (mkF m 6 #[.val (.int p0)] []) _
  refine XS.iloadN X13.here hx rfl (hb hby d8_6) rfl ?_
  show GO p e below T13 (mkF m 7 #[.val (.int p0)] [(.int p0)]) _
  refine st14 _ ?_
  show GO p e below T14 (mkF m 10 #[.val (.int p0)] [(.int 1)]) _
  refine XS.ifNo X14.here hx rfl (hb hby d8_10) rfl ((if0 _ _).trans (feq ((by decide) : ¬ ((1 : Int32) = (0 : Int32)))).1) ?_
  show GO p e below T14 (mkF m 13 #[.val (.int p0)] []) _
  refine st15 _ ?_
  show GO p e below T15 (mkF m 16 #[.val (.int p0)] [(.ref b15)]) _
  refine XS.dup X15.here hx rfl (hb hby d8_16) rfl rfl ?_
  show GO p e below T15 (mkF m 17 #[.val (.int p0)] [(.ref b15), (.ref b15)]) _
  refine XS.iloadN X15.here hx rfl (hb hby d8_17) rfl ?_
  show GO p e below T15 (mkF m 18 #[.val (.int p0)] [(.int p0), (.ref b15), (.ref b15)]) _
  refine st18 _ ?_
  show GO p e below T18 (mkF m 21 #[.val (.int p0)] [(.ref t_18), (.ref b15), (.ref b15)]) _
  refine XS.iconst X18.here hx rfl (hb hby d8_21) ?_
  show GO p e below T18 (mkF m 22 #[.val (.int p0)] [(.int 0), (.ref t_18), (.ref b15), (.ref b15)]) _
  refine st19.trans ?_
  show GO p e below T19 (mkF m 25 #[.val (.int p0)] [(.ref b15)]) _
  exact retOut X19 hx Bd.returns rfl (Or.inr (Or.inr (Or.inr (Or.inr ⟨rfl, rfl, rfl⟩)))) (hb hby d8_25) hr
 ·show Qrm_vo Z p0 z0 h0 n0 _ T19.heap _
  rw [e19]
  exact ⟨b15, rfl, N19, ((((Keep.refl h0 []).ext E15).trans K18 all0).trans K19 (allS (P := fun x => x ∈ _ ∨ _) (Or.inr (by omega)) all0)), p19_0⟩
def Qrm_rn (Z : State) (x1 : Addr) (h0 : Heap) (n0 : Nat) (v : Option Value) (h : Heap) (L : List Loc) : Prop := v = some (.ref x1) ∧ Fr n0 L ∧ h = h0
theorem ef_rm_rn (m : MethodId) (x0 : Addr) : entryFrame m #[(.ref x0)] 1 = mkF m 0 #[.val (.ref x0)] [] := by first | rfl | (simp [entryFrame, mkF, argsToLocals, Value.category]; done)
theorem rm_rn (l : Launch) (Z : State) (a0 : Array Value) (hw : HW Z a0) (ws : List Jvm.Cond) (x1 : Addr) (h0 : Heap) (n0 : Nat) (Z0 : n0 ≤ h0.size) :
  OwnM l Z h0 (⟨"java/util/Objects", "requireNonNull", "(Ljava/lang/Object;)Ljava/lang/Object;"⟩ : MethodName) (Jvm.Cond.code (⟨"java/util/Objects", "requireNonNull", "(Ljava/lang/Object;)Ljava/lang/Object;"⟩ : MethodName) jdk_31_method_10_code 1 (some (.object "java/lang/Object")) :: ws) (RM 0 0 0 0) #[(.ref x1)] (Qrm_rn Z x1 h0 n0) := by
 refine MetFree.of_bodySF (plainFor_of_name pn_2) hisR ?_
 intro p e s m args below meth c s₁ Bd hml0 hP hK
 obtain ⟨rfl, hZ, hh⟩ := hP
 have hx := Bd.exec
 have hby := Bd.bytes
 have hml : c.maxLocals = 1 := hml0
 have hown : s.vm.findClass "java/util/Objects" = some m.cls := findClass_of_methodNamed Bd.named
 have hnm := (name_of_methodNamed Bd.named Bd.method).1
 have X0 : Stand p l e (RM 0 0 0 0) s m #[(.ref x1)] below meth c s₁ [] 0 0 := Stand.of_body Bd
 have e0 : s₁.heap = h0 := by rw [← hh, Bd.state]; rfl
 have N0 := Fr.nil n0
 have pre0 : ∀ t, GO p e below s₁ (mkF m 0 #[.val (.ref x1)] []) t → GO p e below s₁ (entryFrame m #[(.ref x1)] 1) t := fun t k => castTop (ef_rm_rn m x1) k
 obtain ⟨fs, hr, hrun, hended, hW, hsame⟩ := X0.leave (v := some (.ref x1)) (fun h => by rw [Bd.returns] at h; cases h)
 refine ⟨_, _, pre0 _ ?_, hrun, hended, _, _, rfl, ?_, ⟨_, rfl⟩, hW, hsame.mono (by decide) (by decide)⟩
 ·show GO p e below s₁ (mkF m 0 #[.val (.ref x1)] []) _
  refine XS.aloadN X0.here hx rfl (hb hby d40_0) rfl rfl ?_
  show GO p e below s₁ (mkF m 1 #[.val (.ref x1)] [(.ref x1)]) _
  refine XS.ifnonnullYes X0.here hx rfl (pc0 := 1) (pc' := 12) rfl (hb hby d40_1) rfl (by decide) (by decide) ?_
  show GO p e below s₁ (mkF m 12 #[.val (.ref x1)] []) _
  refine XS.aloadN X0.here hx rfl (hb hby d40_12) rfl rfl ?_
  show GO p e below s₁ (mkF m 13 #[.val (.ref x1)] [(.ref x1)]) _
  exact retOut X0 hx Bd.returns rfl (Or.inr (Or.inr (Or.inr (Or.inr ⟨rfl, rfl, rfl⟩)))) (hb hby d40_13) hr
 ·show Qrm_rn Z x1 h0 n0 _ s₁.heap _
  rw [e0]
  exact ⟨rfl, N0, rfl⟩
def Qrm_oi (Z : State) (a1 : Addr) (x1 : Addr) (u1 : Value) (h0 : Heap) (n0 : Nat) (v : Option Value) (h : Heap) (L : List Loc) : Prop := v = none ∧ Fr n0 L ∧ Keep h0 h [a1] ∧ Exa Z h a1 "java/util/Optional" ∧ Fld Z h a1 "java/util/Optional" "value" "Ljava/lang/Object;" (.ref x1)
theorem ef_rm_oi (m : MethodId) (x0 : Addr) (x1 : Addr) : entryFrame m #[(.ref x0), (.ref x1)] 2 = mkF m 0 #[.val (.ref x0), .val (.ref x1)] [] := by first | rfl | (simp [entryFrame, mkF, argsToLocals, Value.category]; done)
theorem rm_oi (l : Launch) (Z : State) (a0 : Array Value) (hw : HW Z a0) (ws : List Jvm.Cond) (a1 : Addr) (x1 : Addr) (u1 : Value) (h0 : Heap) (n0 : Nat) (Z0 : n0 ≤ h0.size) (E1 : Exa Z h0 a1 "java/util/Optional") (F1 : Fld Z h0 a1 "java/util/Optional" "value" "Ljava/lang/Object;" u1) (g1 : n0 ≤ a1) :
  OwnM l Z h0 (⟨"java/util/Optional", "<init>", "(Ljava/lang/Object;)V"⟩ : MethodName) (Jvm.Cond.code (⟨"java/util/Optional", "<init>", "(Ljava/lang/Object;)V"⟩ : MethodName) jdk_32_method_2_code 2 none :: ws) (RM 1 0 0 12) #[(.ref a1), (.ref x1)] (Qrm_oi Z a1 x1 u1 h0 n0) := by
 refine MetFree.of_bodySF (plainFor_of_name pn_3) hisR ?_
 intro p e s m args below meth c s₁ Bd hml0 hP hK
 obtain ⟨rfl, hZ, hh⟩ := hP
 have hx := Bd.exec
 have hby := Bd.bytes
 have hml : c.maxLocals = 2 := hml0
 have hown : s.vm.findClass "java/util/Optional" = some m.cls := findClass_of_methodNamed Bd.named
 have hnm := (name_of_methodNamed Bd.named Bd.method).1
 have X0 : Stand p l e (RM 1 0 0 12) s m #[(.ref a1), (.ref x1)] below meth c s₁ [] 0 0 := Stand.of_body Bd
 have e0 : s₁.heap = h0 := by rw [← hh, Bd.state]; rfl
 have N0 := Fr.nil n0
 have pre0 : ∀ t, GO p e below s₁ (mkF m 0 #[.val (.ref a1), .val (.ref x1)] []) t → GO p e below s₁ (entryFrame m #[(.ref a1), (.ref x1)] 2) t := fun t k => castTop (ef_rm_oi m a1 x1) k
 have lt_E1 := ltA E1.lt
 have lt_F1 := ltA F1.lt
 obtain ⟨T23, X23, e23, st23⟩ := initO X0 hx hZ hown (wd hw 211 rfl) (wd hw 12 rfl) (wd hw 13 rfl) e0 (g := (mkF m 1 #[.val (.ref a1), .val (.ref x1)] [(.ref a1)])) rfl (by rw [hml]; rfl) rfl (hb hby d41_1) (by decide) (W := 0) (wz rfl) (by decide)
 obtain ⟨T24, h24, X24, e24, W24, st24⟩ := putF X23 hx hZ hown (host := "") (Or.inl (wd hw 75 rfl)) Via.refl e23 F1 E1 (Or.inr ⟨(wd hw 76 rfl), rfl, hnm⟩) (wd hw 202 rfl) (ty := (.object "java/lang/Object")) (by decide) rfl rfl (g := (mkF m 6 #[.val (.ref a1), .val (.ref x1)] [(.ref x1), (.ref a1)])) rfl rfl (hb hby d41_6)
 have ge25 : n0 ≤ a1 := by omega
 have N24 := Fr.snoc X24 N0 ge25
 have sz24 : h0.size ≤ h24.size := Nat.le_of_eq W24.size.symm
 have nz24 := Nat.le_trans Z0 sz24
 have f24 : Fld Z h24 a1 "java/util/Optional" "value" "Ljava/lang/Object;" (.ref x1) := F1.same W24
 have f26 : Exa Z h24 a1 "java/util/Optional" := (E1.wr W24)
 obtain ⟨fs, hr, hrun, hended, hW, hsame⟩ := X24.leave (v := none) (fun _ => rfl)
 refine ⟨_, _, pre0 _ ?_, hrun, hended, _, _, rfl, ?_, ⟨_, rfl⟩, hW, hsame.mono (by decide) (by decide)⟩
 ·show GO p e below s₁ (mkF m 0 #[.val (.ref a1), .val (.ref x1)] []) _
  refine XS.aloadN X0.here hx rfl (hb hby d41_0) rfl rfl ?_
  show GO p e below s₁ (mkF m 1 #[.val (.ref a1), .val (.ref x1)] [(.ref a1)]) _
  refine st23 _ ?_
  show GO p e below T23 (mkF m 4 #[.val (.ref a1), .val (.ref x1)] []) _
  refine XS.aloadN X23.here hx rfl (hb hby d41_4) rfl rfl ?_
  show GO p e below T23 (mkF m 5 #[.val (.ref a1), .val (.ref x1)] [(.ref a1)]) _
  refine XS.aloadN X23.here hx rfl (hb hby d41_5) rfl rfl ?_
  show GO p e below T23 (mkF m 6 #[.val (.ref a1), .val (.ref x1)] [(.ref x1), (.ref a1)]) _
  refine st24 _ ?_
  show GO p e below T24 (mkF m 9 #[.val (.ref a1), .val (.ref x1)] []) _
  exact X24.returnOut hx Bd.returns (hb hby d41_9) hr
 ·show Qrm_oi Z a1 x1 u1 h0 n0 _ T24.heap _
  rw [e24]
  exact ⟨rfl, N24, ((Keep.refl h0 [a1]).wr W24 (Or.inl (List.mem_of_getElem? (i := 0) rfl))), f26, f24⟩
def Qrm_of (Z : State) (x1 : Addr) (h0 : Heap) (n0 : Nat) (v : Option Value) (h : Heap) (L : List Loc) : Prop := ∃ o : Addr, v = some (.ref o) ∧ Fr n0 L ∧ Keep h0 h [] ∧ Exa Z h o "java/util/Optional" ∧ Fld Z h o "java/util/Optional" "value" "Ljava/lang/Object;" (.ref x1)
theorem ef_rm_of (m : MethodId) (x0 : Addr) : entryFrame m #[(.ref x0)] 1 = mkF m 0 #[.val (.ref x0)] [] := by first | rfl | (simp [entryFrame, mkF, argsToLocals, Value.category]; done)
theorem rm_of (l : Launch) (Z : State) (a0 : Array Value) (hw : HW Z a0) (ws : List Jvm.Cond) (x1 : Addr) (h0 : Heap) (n0 : Nat) (Z0 : n0 ≤ h0.size) :
  OwnM l Z h0 (⟨"java/util/Optional", "of", "(Ljava/lang/Object;)Ljava/util/Optional;"⟩ : MethodName) (Jvm.Cond.code (⟨"java/util/Optional", "of", "(Ljava/lang/Object;)Ljava/util/Optional;"⟩ : MethodName) jdk_32_method_3_code 1 (some (.object "java/util/Optional")) :: ws) (RM 2 1 1 26) #[(.ref x1)] (Qrm_of Z x1 h0 n0) := by
 refine MetFree.of_bodySF (plainFor_of_name pn_3) hisR ?_
 intro p e s m args below meth c s₁ Bd hml0 hP hK
 obtain ⟨rfl, hZ, hh⟩ := hP
 have hx := Bd.exec
 have hby := Bd.bytes
 have hml : c.maxLocals = 1 := hml0
 have hown : s.vm.findClass "java/util/Optional" = some m.cls := findClass_of_methodNamed Bd.named
 have hnm := (name_of_methodNamed Bd.named Bd.method).1
 have X0 : Stand p l e (RM 2 1 1 26) s m #[(.ref x1)] below meth c s₁ [] 0 0 := Stand.of_body Bd
 have e0 : s₁.heap = h0 := by rw [← hh, Bd.state]; rfl
 have N0 := Fr.nil n0
 have pre0 : ∀ t, GO p e below s₁ (mkF m 0 #[.val (.ref x1)] []) t → GO p e below s₁ (entryFrame m #[(.ref x1)] 1) t := fun t k => castTop (ef_rm_of m x1) k
 obtain ⟨T27, h27, X27, e27, E27, A27, D27, U27, st27⟩ := newO X0 hx hZ hown (wd hw 201 rfl) (wd hw 202 rfl) (wd hw 32 rfl) e0 (g := (mkF m 0 #[.val (.ref x1)] [])) rfl (hb hby d39_0) (by decide) (by decide)
 obtain ⟨b27, g27⟩ : ∃ z, z = h0.size := ⟨_, rfl⟩
 rw [← g27] at A27 D27 U27 st27
 have sz27 : h0.size ≤ h27.size := E27.1
 have nz27 := Nat.le_trans Z0 sz27
 have lt27 := ltA A27.lt
 have f28 : Fld Z h27 b27 "java/util/Optional" "value" "Ljava/lang/Object;" .null := D27 (Or.inr (wd hw 76 rfl)) (ty := (.object "java/lang/Object")) (by decide)
 -- pc 5: Objects.requireNonNull by rm_rn
 obtain ⟨_, _, ⟨T29, L29, k29, n29⟩, -, X29, ⟨Lc29, hQ29, l29, y29, z29⟩, st29⟩ := Jvm.LawKit.callS X27 hx (y := (⟨"java/util/Objects", "requireNonNull", "(Ljava/lang/Object;)Ljava/lang/Object;"⟩ : MethodName)) hown (mvT hZ (wd hw 203 rfl)) (mvT hZ (wd hw 204 rfl)) (mvT hZ (wd hw 205 rfl)) (mvT hZ (wd hw 206 rfl)) (by decide) (backOf (W := 2) (rm_rn l Z a0 hw [] x1 h27 n0 nz27) hZ (wd hw 206 rfl) (wd hw 205 rfl) (by decide) (by decide)) (g := (mkF m 5 #[.val (.ref x1)] [(.ref x1), (.ref b27), (.ref b27)])) rfl (by rw [hml]; rfl) (argsL := [(.ref x1)]) (rest := [(.ref b27), (.ref b27)]) (lenOf pd_3 rfl) rfl (wz rfl) (hb hby d39_5) (fun _ _ => ⟨rfl, e27, (by decide : 1 + 0 ≤ _), (by decide : 1 + 0 ≤ _)⟩)
 dsimp only [Pt.U, Pt.locs, Pt.cells, Pt.slots] at X29 l29 y29 z29 st29 hQ29
 rw [l29, y29, z29] at X29
 obtain ⟨rfl, N29q, e29⟩ := hQ29
 have N29 := Fr.app N0 N29q
 -- pc 8: Optional.<init> by rm_oi
 obtain ⟨_, _, ⟨T30, L30, k30, n30⟩, -, X30, ⟨Lc30, hQ30, l30, y30, z30⟩, st30⟩ := X29.specialBack hx (y := (⟨"java/util/Optional", "<init>", "(Ljava/lang/Object;)V"⟩ : MethodName)) rfl hown (mvT hZ (wd hw 207 rfl)) (mvT hZ (wd hw 208 rfl)) (mvT hZ (wd hw 210 rfl)) (by decide) (backOf (W := 1) (rm_oi l Z a0 hw [] b27 x1 .null h27 n0 nz27 A27 f28 (by first | assumption | decide | omega)) hZ (wd hw 210 rfl) (wd hw 32 rfl) (by decide) (by decide)) (g := (mkF m 8 #[.val (.ref x1)] [(.ref x1), (.ref b27), (.ref b27)])) rfl (by rw [hml]; rfl) (Steps.refl _) (a := b27) (argsL := [(.ref x1)]) (rest := [(.ref b27)]) (lenOf pd_4 rfl) rfl (wz rfl) (hb hby d39_8) (fun _ _ => ⟨rfl, e29, (by decide : 1 + 0 ≤ _), (by decide : 1 + 0 ≤ _)⟩)
 dsimp only [Pt.U, Pt.locs, Pt.cells, Pt.slots] at X30 l30 y30 z30 st30 hQ30
 rw [l30, y30, z30] at X30
 obtain ⟨h30, e30⟩ : ∃ z, T30.heap = z := ⟨_, rfl⟩
 rw [e30] at hQ30
 obtain ⟨rfl, N30q, K30, p30_0, p30_1⟩ := hQ30
 have N30 := Fr.app N29 N30q
 have sz30 : h27.size ≤ h30.size := K30.1
 have nz30 := Nat.le_trans nz27 sz30
 have lt30_0 := ltA p30_0.lt
 obtain ⟨fs, hr, hrun, hended, hW, hsame⟩ := X30.leave (v := some (.ref b27)) (fun h => by rw [Bd.returns] at h; cases h)
 refine ⟨_, _, pre0 _ ?_, hrun, hended, _, _, rfl, ?_, ⟨_, rfl⟩, hW, hsame.mono (by decide) (by decide)⟩
 ·show GO p e below s₁ (mkF m 0 #[.val (.ref x1)] []) _
  refine st27 _ ?_
  show GO p e below T27 (mkF m 3 #[.val (.ref x1)] [(.ref b27)]) _
  refine XS.dup X27.here hx rfl (hb hby d39_3) rfl rfl ?_
  show GO p e below T27 (mkF m 4 #[.val (.ref x1)] [(.ref b27), (.ref b27)]) _
  refine XS.aloadN X27.here hx rfl (hb hby d39_4) rfl rfl ?_
  show GO p e below T27 (mkF m 5 #[.val (.ref x1)] [(.ref x1), (.ref b27), (.ref b27)]) _
  refine st29 _ ?_
  show GO p e below T29 (mkF m 8 #[.val (.ref x1)] [(.ref x1), (.ref b27), (.ref b27)]) _
  refine st30.trans ?_
  show GO p e below T30 (mkF m 11 #[.val (.ref x1)] [(.ref b27)]) _
  exact retOut X30 hx Bd.returns rfl (Or.inr (Or.inr (Or.inr (Or.inr ⟨rfl, rfl, rfl⟩)))) (hb hby d39_11) hr
 ·show Qrm_of Z x1 h0 n0 _ T30.heap _
  rw [e30]
  exact ⟨b27, rfl, N30, (((Keep.refl h0 []).ext E27).trans K30 (allS (P := fun x => x ∈ _ ∨ _) (Or.inr (by omega)) all0)), p30_0, p30_1⟩
def Qrm_oe (Z : State) (q0 : Addr) (h0 : Heap) (n0 : Nat) (v : Option Value) (h : Heap) (L : List Loc) : Prop := v = some (.ref q0) ∧ Fr n0 L ∧ h = h0
theorem ef_rm_oe (m : MethodId)  : entryFrame m #[] 1 = mkF m 0 #[.unset] [] := by first | rfl | (simp [entryFrame, mkF, argsToLocals, Value.category]; done)
theorem rm_oe (l : Launch) (Z : State) (a0 : Array Value) (hw : HW Z a0) (ws : List Jvm.Cond) (q0 : Addr) (h0 : Heap) (n0 : Nat) (Z0 : n0 ≤ h0.size) (O0 : Old Z n0 h0) (HO : (Sta Z Z.heap "java/util/Optional" "EMPTY" "Ljava/util/Optional;" (.ref q0) ∧ Exa Z Z.heap q0 "java/util/Optional" ∧ Fld Z Z.heap q0 "java/util/Optional" "value" "Ljava/lang/Object;" .null)) :
  OwnM l Z h0 (⟨"java/util/Optional", "empty", "()Ljava/util/Optional;"⟩ : MethodName) (Jvm.Cond.code (⟨"java/util/Optional", "empty", "()Ljava/util/Optional;"⟩ : MethodName) jdk_32_method_1_code 1 (some (.object "java/util/Optional")) :: ws) (RM 0 0 0 0) #[] (Qrm_oe Z q0 h0 n0) := by
 refine MetFree.of_bodySF (plainFor_of_name pn_3) hisR ?_
 intro p e s m args below meth c s₁ Bd hml0 hP hK
 obtain ⟨rfl, hZ, hh⟩ := hP
 have hx := Bd.exec
 have hby := Bd.bytes
 have hml : c.maxLocals = 1 := hml0
 have hown : s.vm.findClass "java/util/Optional" = some m.cls := findClass_of_methodNamed Bd.named
 have hnm := (name_of_methodNamed Bd.named Bd.method).1
 have X0 : Stand p l e (RM 0 0 0 0) s m #[] below meth c s₁ [] 0 0 := Stand.of_body Bd
 have e0 : s₁.heap = h0 := by rw [← hh, Bd.state]; rfl
 have N0 := Fr.nil n0
 have pre0 : ∀ t, GO p e below s₁ (mkF m 0 #[.unset] []) t → GO p e below s₁ (entryFrame m #[] 1) t := fun t k => castTop (ef_rm_oe m ) k
 obtain ⟨SZo, SZoe, SZov⟩ := HO
 have S31 : Sta Z h0 "java/util/Optional" "EMPTY" "Ljava/util/Optional;" (.ref q0) := SZo.ext O0.2
 obtain ⟨T32, X32, e32, st32⟩ := getS2 X0 hx hZ hown (host := "") (Or.inl (wd hw 34 rfl)) Via.refl e0 S31 (g := (mkF m 0 #[.unset] [])) rfl (hb hby d7_0)
 obtain ⟨fs, hr, hrun, hended, hW, hsame⟩ := X32.leave (v := some (.ref q0)) (fun h => by rw [Bd.returns] at h; cases h)
 refine ⟨_, _, pre0 _ ?_, hrun, hended, _, _, rfl, ?_, ⟨_, rfl⟩, hW, hsame.mono (by decide) (by decide)⟩
 ·show GO p e below s₁ (mkF m 0 #[.unset] []) _
  refine st32 _ ?_
  show GO p e below T32 (mkF m 3 #[.unset] [(.ref q0)]) _
  refine XS.astoreN X32.here hx rfl (hb hby d7_3) rfl rfl (l' := #[.val (.ref q0)]) rfl ?_
  show GO p e below T32 (mkF m 4 #[.val (.ref q0)] []) _
  refine XS.aloadN X32.here hx rfl (hb hby d7_4) rfl rfl ?_
  show GO p e below T32 (mkF m 5 #[.val (.ref q0)] [(.ref q0)]) _
  exact retOut X32 hx Bd.returns rfl (Or.inr (Or.inr (Or.inr (Or.inr ⟨rfl, rfl, rfl⟩)))) (hb hby d7_5) hr
 ·show Qrm_oe Z q0 h0 n0 _ T32.heap _
  rw [e32]
  exact ⟨rfl, N0, rfl⟩
def Qrm_ip0 (Z : State) (a1 : Addr) (h0 : Heap) (n0 : Nat) (v : Option Value) (h : Heap) (L : List Loc) : Prop := v = some (.int 0) ∧ Fr n0 L ∧ h = h0
theorem ef_rm_ip0 (m : MethodId) (x0 : Addr) : entryFrame m #[(.ref x0)] 1 = mkF m 0 #[.val (.ref x0)] [] := by first | rfl | (simp [entryFrame, mkF, argsToLocals, Value.category]; done)
theorem rm_ip0 (l : Launch) (Z : State) (a0 : Array Value) (hw : HW Z a0) (ws : List Jvm.Cond) (a1 : Addr) (h0 : Heap) (n0 : Nat) (Z0 : n0 ≤ h0.size) (F1 : Fld Z h0 a1 "java/util/Optional" "value" "Ljava/lang/Object;" .null) :
  OwnM l Z h0 (⟨"java/util/Optional", "isPresent", "()Z"⟩ : MethodName) (Jvm.Cond.code (⟨"java/util/Optional", "isPresent", "()Z"⟩ : MethodName) jdk_32_method_6_code 1 (some .boolean) :: ws) (RM 0 0 0 0) #[(.ref a1)] (Qrm_ip0 Z a1 h0 n0) := by
 refine MetFree.of_bodySF (plainFor_of_name pn_3) hisR ?_
 intro p e s m args below meth c s₁ Bd hml0 hP hK
 obtain ⟨rfl, hZ, hh⟩ := hP
 have hx := Bd.exec
 have hby := Bd.bytes
 have hml : c.maxLocals = 1 := hml0
 have hown : s.vm.findClass "java/util/Optional" = some m.cls := findClass_of_methodNamed Bd.named
 have hnm := (name_of_methodNamed Bd.named Bd.method).1
 have X0 : Stand p l e (RM 0 0 0 0) s m #[(.ref a1)] below meth c s₁ [] 0 0 := Stand.of_body Bd
 have e0 : s₁.heap = h0 := by rw [← hh, Bd.state]; rfl
 have N0 := Fr.nil n0
 have pre0 : ∀ t, GO p e below s₁ (mkF m 0 #[.val (.ref a1)] []) t → GO p e below s₁ (entryFrame m #[(.ref a1)] 1) t := fun t k => castTop (ef_rm_ip0 m a1) k
 have lt_F1 := ltA F1.lt
 obtain ⟨T33, X33, e33, st33⟩ := getF X0 hx hZ hown (host := "") (Or.inl (wd hw 75 rfl)) Via.refl e0 F1 (g := (mkF m 1 #[.val (.ref a1)] [(.ref a1)])) rfl rfl (hb hby d15_1)
 obtain ⟨fs, hr, hrun, hended, hW, hsame⟩ := X33.leave (v := some (.int 0)) (fun h => by rw [Bd.returns] at h; cases h)
 refine ⟨_, _, pre0 _ ?_, hrun, hended, _, _, rfl, ?_, ⟨_, rfl⟩, hW, hsame.mono (by decide) (by decide)⟩
 ·show GO p e below s₁ (mkF m 0 #[.val (.ref a1)] []) _
  refine XS.aloadN X0.here hx rfl (hb hby d15_0) rfl rfl ?_
  show GO p e below s₁ (mkF m 1 #[.val (.ref a1)] [(.ref a1)]) _
  refine st33 _ ?_
  show GO p e below T33 (mkF m 4 #[.val (.ref a1)] [.null]) _
  refine XS.ifnullYes X33.here hx rfl (pc0 := 4) (pc' := 11) rfl (hb hby d15_4) rfl (by decide) (by decide) ?_
  show GO p e below T33 (mkF m 11 #[.val (.ref a1)] []) _
  refine XS.iconst X33.here hx rfl (hb hby d15_11) ?_
  show GO p e below T33 (mkF m 12 #[.val (.ref a1)] [(.int 0)]) _
  exact retN X33 hx (t := .boolean) Bd.returns (by simp) (hb hby d15_12) hr
 ·show Qrm_ip0 Z a1 h0 n0 _ T33.heap _
  rw [e33]
  exact ⟨rfl, N0, rfl⟩
def Qrm_ip1 (Z : State) (a1 : Addr) (v1 : Addr) (h0 : Heap) (n0 : Nat) (v : Option Value) (h : Heap) (L : List Loc) : Prop := v = some (.int 1) ∧ Fr n0 L ∧ h = h0
theorem ef_rm_ip1 (m : MethodId) (x0 : Addr) : entryFrame m #[(.ref x0)] 1 = mkF m 0 #[.val (.ref x0)] [] := by first | rfl | (simp [entryFrame, mkF, argsToLocals, Value.category]; done)
theorem rm_ip1 (l : Launch) (Z : State) (a0 : Array Value) (hw : HW Z a0) (ws : List Jvm.Cond) (a1 : Addr) (v1 : Addr) (h0 : Heap) (n0 : Nat) (Z0 : n0 ≤ h0.size) (F1 : Fld Z h0 a1 "java/util/Optional" "value" "Ljava/lang/Object;" (.ref v1)) :
  OwnM l Z h0 (⟨"java/util/Optional", "isPresent", "()Z"⟩ : MethodName) (Jvm.Cond.code (⟨"java/util/Optional", "isPresent", "()Z"⟩ : MethodName) jdk_32_method_6_code 1 (some .boolean) :: ws) (RM 0 0 0 0) #[(.ref a1)] (Qrm_ip1 Z a1 v1 h0 n0) := by
 refine MetFree.of_bodySF (plainFor_of_name pn_3) hisR ?_
 intro p e s m args below meth c s₁ Bd hml0 hP hK
 obtain ⟨rfl, hZ, hh⟩ := hP
 have hx := Bd.exec
 have hby := Bd.bytes
 have hml : c.maxLocals = 1 := hml0
 have hown : s.vm.findClass "java/util/Optional" = some m.cls := findClass_of_methodNamed Bd.named
 have hnm := (name_of_methodNamed Bd.named Bd.method).1
 have X0 : Stand p l e (RM 0 0 0 0) s m #[(.ref a1)] below meth c s₁ [] 0 0 := Stand.of_body Bd
 have e0 : s₁.heap = h0 := by rw [← hh, Bd.state]; rfl
 have N0 := Fr.nil n0
 have pre0 : ∀ t, GO p e below s₁ (mkF m 0 #[.val (.ref a1)] []) t → GO p e below s₁ (entryFrame m #[(.ref a1)] 1) t := fun t k => castTop (ef_rm_ip1 m a1) k
 have lt_F1 := ltA F1.lt
 obtain ⟨T34, X34, e34, st34⟩ := getF X0 hx hZ hown (host := "") (Or.inl (wd hw 75 rfl)) Via.refl e0 F1 (g := (mkF m 1 #[.val (.ref a1)] [(.ref a1)])) rfl rfl (hb hby d15_1)
 obtain ⟨fs, hr, hrun, hended, hW, hsame⟩ := X34.leave (v := some (.int 1)) (fun h => by rw [Bd.returns] at h; cases h)
 refine ⟨_, _, pre0 _ ?_, hrun, hended, _, _, rfl, ?_, ⟨_, rfl⟩, hW, hsame.mono (by decide) (by decide)⟩
 ·show GO p e below s₁ (mkF m 0 #[.val (.ref a1)] []) _
  refine XS.aloadN X0.here hx rfl (hb hby d15_0) rfl rfl ?_
  show GO p e below s₁ (mkF m 1 #[.val (.ref a1)] [(.ref a1)]) _
  refine st34 _ ?_
  show GO p e below T34 (mkF m 4 #[.val (.ref a1)] [(.ref v1)]) _
  refine XS.ifnullNo X34.here hx rfl (hb hby d15_4) rfl ?_
  show GO p e below T34 (mkF m 7 #[.val (.ref a1)] []) _
  refine XS.iconst X34.here hx rfl (hb hby d15_7) ?_
  show GO p e below T34 (mkF m 8 #[.val (.ref a1)] [(.int 1)]) _
  refine XS.goto X34.here hx rfl (pc0 := 8) (pc' := 12) rfl (hb hby d15_8) (by decide) (by decide) ?_
  show GO p e below T34 (mkF m 12 #[.val (.ref a1)] [(.int 1)]) _
  exact retN X34 hx (t := .boolean) Bd.returns (by simp) (hb hby d15_12) hr
 ·show Qrm_ip1 Z a1 v1 h0 n0 _ T34.heap _
  rw [e34]
  exact ⟨rfl, N0, rfl⟩
def Qrm_rec (Z : State) (a1 : Addr) (h0 : Heap) (n0 : Nat) (v : Option Value) (h : Heap) (L : List Loc) : Prop := v = none ∧ Fr n0 L ∧ h = h0
theorem ef_rm_rec (m : MethodId) (x0 : Addr) : entryFrame m #[(.ref x0)] 1 = mkF m 0 #[.val (.ref x0)] [] := by first | rfl | (simp [entryFrame, mkF, argsToLocals, Value.category]; done)
theorem rm_rec (l : Launch) (Z : State) (a0 : Array Value) (hw : HW Z a0) (ws : List Jvm.Cond) (a1 : Addr) (h0 : Heap) (n0 : Nat) (Z0 : n0 ≤ h0.size) :
  OwnM l Z h0 (⟨"java/lang/Record", "<init>", "()V"⟩ : MethodName) (Jvm.Cond.code (⟨"java/lang/Record", "<init>", "()V"⟩ : MethodName) jdk_30_method_1_code 1 none :: ws) (RM 1 0 0 12) #[(.ref a1)] (Qrm_rec Z a1 h0 n0) := by
 refine MetFree.of_bodySF (plainFor_of_name pn_4) hisR ?_
 intro p e s m args below meth c s₁ Bd hml0 hP hK
 obtain ⟨rfl, hZ, hh⟩ := hP
 have hx := Bd.exec
 have hby := Bd.bytes
 have hml : c.maxLocals = 1 := hml0
 have hown : s.vm.findClass "java/lang/Record" = some m.cls := findClass_of_methodNamed Bd.named
 have hnm := (name_of_methodNamed Bd.named Bd.method).1
 have X0 : Stand p l e (RM 1 0 0 12) s m #[(.ref a1)] below meth c s₁ [] 0 0 := Stand.of_body Bd
 have e0 : s₁.heap = h0 := by rw [← hh, Bd.state]; rfl
 have N0 := Fr.nil n0
 have pre0 : ∀ t, GO p e below s₁ (mkF m 0 #[.val (.ref a1)] []) t → GO p e below s₁ (entryFrame m #[(.ref a1)] 1) t := fun t k => castTop (ef_rm_rec m a1) k
 obtain ⟨T35, X35, e35, st35⟩ := initO X0 hx hZ hown (wd hw 60 rfl) (wd hw 12 rfl) (wd hw 13 rfl) e0 (g := (mkF m 1 #[.val (.ref a1)] [(.ref a1)])) rfl (by rw [hml]; rfl) rfl (hb hby d13_1) (by decide) (W := 0) (wz rfl) (by decide)
 obtain ⟨fs, hr, hrun, hended, hW, hsame⟩ := X35.leave (v := none) (fun _ => rfl)
 refine ⟨_, _, pre0 _ ?_, hrun, hended, _, _, rfl, ?_, ⟨_, rfl⟩, hW, hsame.mono (by decide) (by decide)⟩
 ·show GO p e below s₁ (mkF m 0 #[.val (.ref a1)] []) _
  refine XS.aloadN X0.here hx rfl (hb hby d13_0) rfl rfl ?_
  show GO p e below s₁ (mkF m 1 #[.val (.ref a1)] [(.ref a1)]) _
  refine st35 _ ?_
  show GO p e below T35 (mkF m 4 #[.val (.ref a1)] []) _
  exact X35.returnOut hx Bd.returns (hb hby d13_4) hr
 ·show Qrm_rec Z a1 h0 n0 _ T35.heap _
  rw [e35]
  exact ⟨rfl, N0, rfl⟩
def Qrm_ki (Z : State) (a1 : Addr) (x1 : Addr) (o1 : Addr) (u1 : Value) (u2 : Value) (h0 : Heap) (n0 : Nat) (v : Option Value) (h : Heap) (L : List Loc) : Prop := v = none ∧ Fr n0 L ∧ Keep h0 h [a1] ∧ Exa Z h a1 "com/example/lease/lease/store/KeyRange" ∧ Fld Z h a1 "com/example/lease/lease/store/KeyRange" "below" "Ljava/util/Optional;" (.ref o1)
theorem ef_rm_ki (m : MethodId) (x0 : Addr) (x1 : Addr) (x2 : Addr) : entryFrame m #[(.ref x0), (.ref x1), (.ref x2)] 3 = mkF m 0 (la1 x0 x1 x2) [] := by first | rfl | (simp [entryFrame, mkF, argsToLocals, Value.category]; done)
theorem rm_ki (l : Launch) (Z : State) (a0 : Array Value) (hw : HW Z a0) (ws : List Jvm.Cond) (a1 : Addr) (x1 : Addr) (o1 : Addr) (u1 : Value) (u2 : Value) (h0 : Heap) (n0 : Nat) (Z0 : n0 ≤ h0.size) (E1 : Exa Z h0 a1 "com/example/lease/lease/store/KeyRange") (F1 : Fld Z h0 a1 "com/example/lease/lease/store/KeyRange" "from" "Ljava/lang/String;" u1) (F2 : Fld Z h0 a1 "com/example/lease/lease/store/KeyRange" "below" "Ljava/util/Optional;" u2) (g1 : n0 ≤ a1) :
  OwnM l Z h0 (⟨"com/example/lease/lease/store/KeyRange", "<init>", "(Ljava/lang/String;Ljava/util/Optional;)V"⟩ : MethodName) (Jvm.Cond.code (⟨"com/example/lease/lease/store/KeyRange", "<init>", "(Ljava/lang/String;Ljava/util/Optional;)V"⟩ : MethodName) prog_34_method_1_code 3 none :: ws) (RM 2 0 0 24) #[(.ref a1), (.ref x1), (.ref o1)] (Qrm_ki Z a1 x1 o1 u1 u2 h0 n0) := by
 refine MetFree.of_bodySF (plainFor_of_name pn_5) hisR ?_
 intro p e s m args below meth c s₁ Bd hml0 hP hK
 obtain ⟨rfl, hZ, hh⟩ := hP
 have hx := Bd.exec
 have hby := Bd.bytes
 have hml : c.maxLocals = 3 := hml0
 have hown : s.vm.findClass "com/example/lease/lease/store/KeyRange" = some m.cls := findClass_of_methodNamed Bd.named
 have hnm := (name_of_methodNamed Bd.named Bd.method).1
 have X0 : Stand p l e (RM 2 0 0 24) s m #[(.ref a1), (.ref x1), (.ref o1)] below meth c s₁ [] 0 0 := Stand.of_body Bd
 have e0 : s₁.heap = h0 := by rw [← hh, Bd.state]; rfl
 have N0 := Fr.nil n0
 have pre0 : ∀ t, GO p e below s₁ (mkF m 0 (la1 a1 x1 o1) []) t → GO p e below s₁ (entryFrame m #[(.ref a1), (.ref x1), (.ref o1)] 3) t := fun t k => castTop (ef_rm_ki m a1 x1 o1) k
 have lt_E1 := ltA E1.lt
 have lt_F1 := ltA F1.lt
 have lt_F2 := ltA F2.lt
 -- pc 1: Record.<init> by rm_rec
 obtain ⟨_, _, ⟨T36, L36, k36, n36⟩, -, X36, ⟨Lc36, hQ36, l36, y36, z36⟩, st36⟩ := X0.specialBack hx (y := (⟨"java/lang/Record", "<init>", "()V"⟩ : MethodName)) rfl hown (mvT hZ (wd hw 55 rfl)) (mvT hZ (wd hw 56 rfl)) (mvT hZ (wd hw 59 rfl)) (by decide) (backOf (W := 0) (rm_rec l Z a0 hw [] a1 h0 n0 Z0) hZ (wd hw 59 rfl) (wd hw 58 rfl) (by decide) (by decide)) (g := (mkF m 1 (la1 a1 x1 o1) [(.ref a1)])) rfl (by rw [hml]; rfl) (Steps.refl _) (a := a1) (argsL := []) (rest := []) (lenOf pd_5 rfl) rfl (wz rfl) (hb hby d12_1) (fun _ _ => ⟨rfl, e0, (by decide : 0 + 0 ≤ _), (by decide : 0 + 0 ≤ _)⟩)
 dsimp only [Pt.U, Pt.locs, Pt.cells, Pt.slots] at X36 l36 y36 z36 st36 hQ36
 rw [l36, y36, z36] at X36
 obtain ⟨rfl, N36q, e36⟩ := hQ36
 have N36 := Fr.app N0 N36q
 obtain ⟨T37, h37, X37, e37, W37, st37⟩ := putF X36 hx hZ hown (host := "") (Or.inl (wd hw 61 rfl)) Via.refl e36 F1 E1 (Or.inr ⟨(wd hw 62 rfl), rfl, hnm⟩) (wd hw 36 rfl) (ty := (.object kS1)) (by decide) rfl rfl (g := (mkF m 6 (la1 a1 x1 o1) [(.ref x1), (.ref a1)])) rfl rfl (hb hby d12_6)
 have ge38 : n0 ≤ a1 := by omega
 have N37 := Fr.snoc X37 N36 ge38
 have sz37 : h0.size ≤ h37.size := Nat.le_of_eq W37.size.symm
 have nz37 := Nat.le_trans Z0 sz37
 have f37 : Fld Z h37 a1 "com/example/lease/lease/store/KeyRange" "from" "Ljava/lang/String;" (.ref x1) := F1.same W37
 have f39 : Fld Z h37 a1 "com/example/lease/lease/store/KeyRange" "below" "Ljava/util/Optional;" u2 := (F2.other W37 (Or.inr (slot_ne (Or.inr (wd hw 64 rfl)) (Or.inr (wd hw 62 rfl)) (by decide) (t := (.object "java/util/Optional")) (t' := (.object kS1)) (by decide) (by decide))))
 have f40 : Exa Z h37 a1 "com/example/lease/lease/store/KeyRange" := (E1.wr W37)
 obtain ⟨T41, h41, X41, e41, W41, st41⟩ := putF X37 hx hZ hown (host := "") (Or.inl (wd hw 63 rfl)) Via.refl e37 f39 f40 (Or.inr ⟨(wd hw 64 rfl), rfl, hnm⟩) (wd hw 36 rfl) (ty := (.object "java/util/Optional")) (by decide) rfl rfl (g := (mkF m 11 (la1 a1 x1 o1) [(.ref o1), (.ref a1)])) rfl rfl (hb hby d12_11)
 have N41 := Fr.snoc X41 N37 ge38
 have sz41 : h37.size ≤ h41.size := Nat.le_of_eq W41.size.symm
 have nz41 := Nat.le_trans nz37 sz41
 have f41 : Fld Z h41 a1 "com/example/lease/lease/store/KeyRange" "below" "Ljava/util/Optional;" (.ref o1) := f39.same W41
 have f42 : Exa Z h41 a1 "com/example/lease/lease/store/KeyRange" := (f40.wr W41)
 obtain ⟨fs, hr, hrun, hended, hW, hsame⟩ := X41.leave (v := none) (fun _ => rfl)
 refine ⟨_, _, pre0 _ ?_, hrun, hended, _, _, rfl, ?_, ⟨_, rfl⟩, hW, hsame.mono (by decide) (by decide)⟩
 ·show GO p e below s₁ (mkF m 0 (la1 a1 x1 o1) []) _
  refine XS.aloadN X0.here hx rfl (hb hby d12_0) rfl rfl ?_
  show GO p e below s₁ (mkF m 1 (la1 a1 x1 o1) [(.ref a1)]) _
  refine st36.trans ?_
  show GO p e below T36 (mkF m 4 (la1 a1 x1 o1) []) _
  refine XS.aloadN X36.here hx rfl (hb hby d12_4) rfl rfl ?_
  show GO p e below T36 (mkF m 5 (la1 a1 x1 o1) [(.ref a1)]) _
  refine XS.aloadN X36.here hx rfl (hb hby d12_5) rfl rfl ?_
  show GO p e below T36 (mkF m 6 (la1 a1 x1 o1) [(.ref x1), (.ref a1)]) _
  refine st37 _ ?_
  show GO p e below T37 (mkF m 9 (la1 a1 x1 o1) []) _
  refine XS.aloadN X37.here hx rfl (hb hby d12_9) rfl rfl ?_
  show GO p e below T37 (mkF m 10 (la1 a1 x1 o1) [(.ref a1)]) _
  refine XS.aloadN X37.here hx rfl (hb hby d12_10) rfl rfl ?_
  show GO p e below T37 (mkF m 11 (la1 a1 x1 o1) [(.ref o1), (.ref a1)]) _
  refine st41 _ ?_
  show GO p e below T41 (mkF m 14 (la1 a1 x1 o1) []) _
  exact X41.returnOut hx Bd.returns (hb hby d12_14) hr
 ·show Qrm_ki Z a1 x1 o1 u1 u2 h0 n0 _ T41.heap _
  rw [e41]
  exact ⟨rfl, N41, (((Keep.refl h0 [a1]).wr W37 (Or.inl (List.mem_of_getElem? (i := 0) rfl))).wr W41 (Or.inl (List.mem_of_getElem? (i := 0) rfl))), f42, f41⟩
def Qrm_ai (Z : State) (a1 : Addr) (u1 : Value) (u2 : Value) (z0 : Int32) (h0 : Heap) (n0 : Nat) (v : Option Value) (h : Heap) (L : List Loc) : Prop := ∃ d : Addr, ∃ k : ClassId, v = none ∧ Fr n0 L ∧ Keep h0 h [a1] ∧ Exa Z h a1 kS2 ∧ Fld Z h a1 kS0 "value" "[B" (.ref d) ∧ Fld Z h a1 kS0 "coder" "B" (.int 0) ∧ Fld Z h a1 kS0 "count" "I" (.int 0) ∧ Arv Z h d k .byte (16 : Int32) [(.int 0), (.int 0), (.int 0), (.int 0), (.int 0), (.int 0), (.int 0), (.int 0), (.int 0), (.int 0), (.int 0), (.int 0), (.int 0), (.int 0), (.int 0), (.int 0)] (.int 0) ∧ h0.size ≤ d
theorem ef_rm_ai (m : MethodId) (x0 : Addr) (x1 : Int32) : entryFrame m #[(.ref x0), (.int x1)] 2 = mkF m 0 #[.val (.ref x0), .val (.int x1)] [] := by first | rfl | (simp [entryFrame, mkF, argsToLocals, Value.category]; done)
theorem rm_ai (l : Launch) (Z : State) (a0 : Array Value) (hw : HW Z a0) (ws : List Jvm.Cond) (a1 : Addr) (u1 : Value) (u2 : Value) (z0 : Int32) (h0 : Heap) (n0 : Nat) (Z0 : n0 ≤ h0.size) (O0 : Old Z n0 h0) (Eb : Exa Z h0 a1 kS2) (Fbv : Fld Z h0 a1 kS0 "value" "[B" u1) (Fbc : Fld Z h0 a1 kS0 "coder" "B" u2) (Fbn : Fld Z h0 a1 kS0 "count" "I" (.int 0)) (SZc : Sta Z Z.heap kS1 "COMPACT_STRINGS" "Z" (.int z0)) (hz0 : ¬ z0 = 0) (ga : n0 ≤ a1) :
  OwnM l Z h0 (⟨kS0, "<init>", "(I)V"⟩ : MethodName) (Jvm.Cond.code (⟨kS0, "<init>", "(I)V"⟩ : MethodName) jdk_68_method_2_code 2 none :: ws) (RM 1 1 16 12) #[(.ref a1), (.int 16)] (Qrm_ai Z a1 u1 u2 z0 h0 n0) := by
 refine MetFree.of_bodySF (plainFor_of_name pn_6) hisR ?_
 intro p e s m args below meth c s₁ Bd hml0 hP hK
 obtain ⟨rfl, hZ, hh⟩ := hP
 have hx := Bd.exec
 have hby := Bd.bytes
 have hml : c.maxLocals = 2 := hml0
 have hown : s.vm.findClass kS0 = some m.cls := findClass_of_methodNamed Bd.named
 have hnm := (name_of_methodNamed Bd.named Bd.method).1
 have X0 : Stand p l e (RM 1 1 16 12) s m #[(.ref a1), (.int 16)] below meth c s₁ [] 0 0 := Stand.of_body Bd
 have e0 : s₁.heap = h0 := by rw [← hh, Bd.state]; rfl
 have N0 := Fr.nil n0
 have pre0 : ∀ t, GO p e below s₁ (mkF m 0 #[.val (.ref a1), .val (.int 16)] []) t → GO p e below s₁ (entryFrame m #[(.ref a1), (.int 16)] 2) t := fun t k => castTop (ef_rm_ai m a1 ((16 : Int32))) k
 have lt_Eb := ltA Eb.lt
 have lt_Fbv := ltA Fbv.lt
 have lt_Fbc := ltA Fbc.lt
 have lt_Fbn := ltA Fbn.lt
 obtain ⟨T43, X43, e43, st43⟩ := initO X0 hx hZ hown (wd hw 89 rfl) (wd hw 12 rfl) (wd hw 13 rfl) e0 (g := (mkF m 1 #[.val (.ref a1), .val (.int 16)] [(.ref a1)])) rfl (by rw [hml]; rfl) rfl (hb hby d17_1) (by decide) (W := 0) (wz rfl) (by decide)
 have S44 : Sta Z h0 kS1 "COMPACT_STRINGS" "Z" (.int z0) := SZc.ext O0.2
 obtain ⟨T45, X45, e45, st45⟩ := getS2 X43 hx hZ hown (host := "") (Or.inl (wd hw 90 rfl)) Via.refl e43 S44 (g := (mkF m 4 #[.val (.ref a1), .val (.int 16)] [])) rfl (hb hby d17_4)
 obtain ⟨T46, h46, k46, X46, e46, E46, A46, st46⟩ := newP X45 hx hZ (wd hw 19 rfl) e45 (g := (mkF m 12 #[.val (.ref a1), .val (.int 16)] [(.int 16), (.ref a1)])) rfl (hb hby d17_12) rfl (by decide) (cap := 16) (by decide) (by decide) (by decide) (by decide)
 obtain ⟨b46, g46⟩ : ∃ z, z = h0.size := ⟨_, rfl⟩
 rw [← g46] at A46 st46
 have sz46 : h0.size ≤ h46.size := E46.1
 have nz46 := Nat.le_trans Z0 sz46
 have lt46 := ltA A46.lt
 have V46 : Arv Z h46 b46 k46 .byte (16 : Int32) [(.int 0), (.int 0), (.int 0), (.int 0), (.int 0), (.int 0), (.int 0), (.int 0), (.int 0), (.int 0), (.int 0), (.int 0), (.int 0), (.int 0), (.int 0), (.int 0)] (.int 0) := (Arv.new A46 (by decide)).pad (pad_rep [] (.int 0) 16)
 have f47 : Fld Z h46 a1 kS0 "value" "[B" u1 := (Fbv.ext E46)
 have f48 : Exa Z h46 a1 kS2 := (Eb.ext E46)
 obtain ⟨T49, h49, X49, e49, W49, st49⟩ := putF X46 hx hZ hown (host := "") (Or.inl (wd hw 91 rfl)) Via.refl e46 f47 f48 (Or.inl (wd hw 92 rfl)) (wd hw 78 rfl) (ty := (.array .byte)) (by decide) rfl rfl (g := (mkF m 14 #[.val (.ref a1), .val (.int 16)] [(.ref b46), (.ref a1)])) rfl rfl (hb hby d17_14)
 have ge50 : n0 ≤ a1 := by omega
 have N49 := Fr.snoc X49 N0 ge50
 have sz49 : h46.size ≤ h49.size := Nat.le_of_eq W49.size.symm
 have nz49 := Nat.le_trans nz46 sz49
 have f49 : Fld Z h49 a1 kS0 "value" "[B" (.ref b46) := f47.same W49
 have f51 : Fld Z h49 a1 kS0 "coder" "B" u2 := ((Fbc.ext E46).other W49 (Or.inr (slot_ne (Or.inl (wd hw 94 rfl)) (Or.inl (wd hw 92 rfl)) (by decide) (t := .byte) (t' := (.array .byte)) (by decide) (by decide))))
 have f52 : Exa Z h49 a1 kS2 := (f48.wr W49)
 obtain ⟨T53, h53, X53, e53, W53, st53⟩ := putFN X49 hx hZ hown (wd hw 93 rfl) Via.refl e49 f51 f52 (Or.inl (wd hw 94 rfl)) (wd hw 78 rfl) (ty := .byte) (v' := (.int 0)) (by decide) rfl rfl (g := (mkF m 19 #[.val (.ref a1), .val (.int 16)] [(.int 0), (.ref a1)])) rfl rfl (hb hby d17_19)
 have N53 := Fr.snoc X53 N49 ge50
 have sz53 : h49.size ≤ h53.size := Nat.le_of_eq W53.size.symm
 have nz53 := Nat.le_trans nz49 sz53
 have f53 : Fld Z h53 a1 kS0 "coder" "B" (.int 0) := f51.same W53
 have f54 : Exa Z h53 a1 kS2 := (f52.wr W53)
 have f55 : Fld Z h53 a1 kS0 "value" "[B" (.ref b46) := (f49.other W53 (Or.inr (slot_ne (Or.inl (wd hw 92 rfl)) (Or.inl (wd hw 94 rfl)) (by decide) (t := (.array .byte)) (t' := .byte) (by decide) (by decide))))
 have f56 : Fld Z h53 a1 kS0 "count" "I" (.int 0) := (((Fbn.ext E46).other W49 (Or.inr (slot_ne (Or.inl (wd hw 116 rfl)) (Or.inl (wd hw 92 rfl)) (by decide) (t := .int) (t' := (.array .byte)) (by decide) (by decide)))).other W53 (Or.inr (slot_ne (Or.inl (wd hw 116 rfl)) (Or.inl (wd hw 94 rfl)) (by decide) (t := .int) (t' := .byte) (by decide) (by decide))))
 have ne57 : b46 ≠ a1 := neN (by omega)
 have f58 : Arv Z h53 b46 k46 .byte (16 : Int32) [(.int 0), (.int 0), (.int 0), (.int 0), (.int 0), (.int 0), (.int 0), (.int 0), (.int 0), (.int 0), (.int 0), (.int 0), (.int 0), (.int 0), (.int 0), (.int 0)] (.int 0) := ((V46.other W49 ne57).other W53 ne57)
 obtain ⟨fs, hr, hrun, hended, hW, hsame⟩ := X53.leave (v := none) (fun _ => rfl)
 refine ⟨_, _, pre0 _ ?_, hrun, hended, _, _, rfl, ?_, ⟨_, rfl⟩, hW, hsame.mono (by decide) (by decide)⟩
 ·show GO p e below s₁ (mkF m 0 #[.val (.ref a1), .val (.int 16)] []) _
  refine XS.aloadN X0.here hx rfl (hb hby d17_0) rfl rfl ?_
  show GO p e below s₁ (mkF m 1 #[.val (.ref a1), .val (.int 16)] [(.ref a1)]) _
  refine st43 _ ?_
  show GO p e below T43 (mkF m 4 #[.val (.ref a1), .val (.int 16)] []) _
  refine st45 _ ?_
  show GO p e below T45 (mkF m 7 #[.val (.ref a1), .val (.int 16)] [(.int z0)]) _
  refine XS.ifNo X45.here hx rfl (hb hby d17_7) rfl ((if0 _ _).trans (feq ((by first | assumption | decide) : ¬ (z0 = (0 : Int32)))).1) ?_
  show GO p e below T45 (mkF m 10 #[.val (.ref a1), .val (.int 16)] []) _
  refine XS.aloadN X45.here hx rfl (hb hby d17_10) rfl rfl ?_
  show GO p e below T45 (mkF m 11 #[.val (.ref a1), .val (.int 16)] [(.ref a1)]) _
  refine XS.iloadN X45.here hx rfl (hb hby d17_11) rfl ?_
  show GO p e below T45 (mkF m 12 #[.val (.ref a1), .val (.int 16)] [(.int 16), (.ref a1)]) _
  refine st46 _ ?_
  show GO p e below T46 (mkF m 14 #[.val (.ref a1), .val (.int 16)] [(.ref b46), (.ref a1)]) _
  refine st49 _ ?_
  show GO p e below T49 (mkF m 17 #[.val (.ref a1), .val (.int 16)] []) _
  refine XS.aloadN X49.here hx rfl (hb hby d17_17) rfl rfl ?_
  show GO p e below T49 (mkF m 18 #[.val (.ref a1), .val (.int 16)] [(.ref a1)]) _
  refine XS.iconst X49.here hx rfl (hb hby d17_18) ?_
  show GO p e below T49 (mkF m 19 #[.val (.ref a1), .val (.int 16)] [(.int 0), (.ref a1)]) _
  refine st53 _ ?_
  show GO p e below T53 (mkF m 22 #[.val (.ref a1), .val (.int 16)] []) _
  refine XS.goto X53.here hx rfl (pc0 := 22) (pc' := 38) rfl (hb hby d17_22) (by decide) (by decide) ?_
  show GO p e below T53 (mkF m 38 #[.val (.ref a1), .val (.int 16)] []) _
  exact X53.returnOut hx Bd.returns (hb hby d17_38) hr
 ·show Qrm_ai Z a1 u1 u2 z0 h0 n0 _ T53.heap _
  rw [e53]
  exact ⟨b46, k46, rfl, N53, ((((Keep.refl h0 [a1]).ext E46).wr W49 (Or.inl (List.mem_of_getElem? (i := 0) rfl))).wr W53 (Or.inl (List.mem_of_getElem? (i := 0) rfl))), f54, f55, f53, f56, f58, (by omega)⟩
def Qrm_bi (Z : State) (a1 : Addr) (u1 : Value) (u2 : Value) (z0 : Int32) (h0 : Heap) (n0 : Nat) (v : Option Value) (h : Heap) (L : List Loc) : Prop := ∃ d : Addr, ∃ k : ClassId, v = none ∧ Fr n0 L ∧ Keep h0 h [a1] ∧ Exa Z h a1 kS2 ∧ Fld Z h a1 kS0 "value" "[B" (.ref d) ∧ Fld Z h a1 kS0 "coder" "B" (.int 0) ∧ Fld Z h a1 kS0 "count" "I" (.int 0) ∧ Arv Z h d k .byte (16 : Int32) [(.int 0), (.int 0), (.int 0), (.int 0), (.int 0), (.int 0), (.int 0), (.int 0), (.int 0), (.int 0), (.int 0), (.int 0), (.int 0), (.int 0), (.int 0), (.int 0)] (.int 0) ∧ h0.size ≤ d
theorem ef_rm_bi (m : MethodId) (x0 : Addr) : entryFrame m #[(.ref x0)] 1 = mkF m 0 #[.val (.ref x0)] [] := by first | rfl | (simp [entryFrame, mkF, argsToLocals, Value.category]; done)
theorem rm_bi (l : Launch) (Z : State) (a0 : Array Value) (hw : HW Z a0) (ws : List Jvm.Cond) (a1 : Addr) (u1 : Value) (u2 : Value) (z0 : Int32) (h0 : Heap) (n0 : Nat) (Z0 : n0 ≤ h0.size) (O0 : Old Z n0 h0) (Eb : Exa Z h0 a1 kS2) (Fbv : Fld Z h0 a1 kS0 "value" "[B" u1) (Fbc : Fld Z h0 a1 kS0 "coder" "B" u2) (Fbn : Fld Z h0 a1 kS0 "count" "I" (.int 0)) (SZc : Sta Z Z.heap kS1 "COMPACT_STRINGS" "Z" (.int z0)) (hz0 : ¬ z0 = 0) (ga : n0 ≤ a1) :
  OwnM l Z h0 (⟨kS2, "<init>", "()V"⟩ : MethodName) (Jvm.Cond.code (⟨kS2, "<init>", "()V"⟩ : MethodName) jdk_67_method_1_code 1 none :: ws) (RM 2 1 16 25) #[(.ref a1)] (Qrm_bi Z a1 u1 u2 z0 h0 n0) := by
 refine MetFree.of_bodySF (plainFor_of_name pn_7) hisR ?_
 intro p e s m args below meth c s₁ Bd hml0 hP hK
 obtain ⟨rfl, hZ, hh⟩ := hP
 have hx := Bd.exec
 have hby := Bd.bytes
 have hml : c.maxLocals = 1 := hml0
 have hown : s.vm.findClass kS2 = some m.cls := findClass_of_methodNamed Bd.named
 have hnm := (name_of_methodNamed Bd.named Bd.method).1
 have X0 : Stand p l e (RM 2 1 16 25) s m #[(.ref a1)] below meth c s₁ [] 0 0 := Stand.of_body Bd
 have e0 : s₁.heap = h0 := by rw [← hh, Bd.state]; rfl
 have N0 := Fr.nil n0
 have pre0 : ∀ t, GO p e below s₁ (mkF m 0 #[.val (.ref a1)] []) t → GO p e below s₁ (entryFrame m #[(.ref a1)] 1) t := fun t k => castTop (ef_rm_bi m a1) k
 have lt_Eb := ltA Eb.lt
 have lt_Fbv := ltA Fbv.lt
 have lt_Fbc := ltA Fbc.lt
 have lt_Fbn := ltA Fbn.lt
 -- pc 3: AbstractStringBuilder.<init> by rm_ai
 obtain ⟨_, _, ⟨T59, L59, k59, n59⟩, -, X59, ⟨Lc59, hQ59, l59, y59, z59⟩, st59⟩ := X0.specialBack hx (y := (⟨kS0, "<init>", "(I)V"⟩ : MethodName)) rfl hown (mvT hZ (wd hw 83 rfl)) (mvT hZ (wd hw 84 rfl)) (mvT hZ (wd hw 88 rfl)) (by decide) (backOf (W := 0) (rm_ai l Z a0 hw [] a1 u1 u2 z0 h0 n0 Z0 O0 Eb Fbv Fbc Fbn (by first | assumption | decide | omega) (by first | assumption | decide | omega) (by first | assumption | decide | omega)) hZ (wd hw 88 rfl) (wd hw 87 rfl) (by decide) (by decide)) (g := (mkF m 3 #[.val (.ref a1)] [(.int 16), (.ref a1)])) rfl (by rw [hml]; rfl) (Steps.refl _) (a := a1) (argsL := [(.int 16)]) (rest := []) (lenOf pd_6 rfl) rfl (wz rfl) (hb hby d16_3) (fun _ _ => ⟨rfl, e0, (by decide : 0 + 1 ≤ _), (by decide : 0 + 16 ≤ _)⟩)
 dsimp only [Pt.U, Pt.locs, Pt.cells, Pt.slots] at X59 l59 y59 z59 st59 hQ59
 rw [l59, y59, z59] at X59
 obtain ⟨h59, e59⟩ : ∃ z, T59.heap = z := ⟨_, rfl⟩
 rw [e59] at hQ59
 obtain ⟨d_59, k_59, rfl, N59q, K59, p59_0, p59_1, p59_2, p59_3, p59_4, r59_0⟩ := hQ59
 have N59 := Fr.app N0 N59q
 have sz59 : h0.size ≤ h59.size := K59.1
 have nz59 := Nat.le_trans Z0 sz59
 have lt59_0 := ltA p59_0.lt
 have lt59_4 := ltA p59_4.lt
 obtain ⟨fs, hr, hrun, hended, hW, hsame⟩ := X59.leave (v := none) (fun _ => rfl)
 refine ⟨_, _, pre0 _ ?_, hrun, hended, _, _, rfl, ?_, ⟨_, rfl⟩, hW, hsame.mono (by decide) (by decide)⟩
 ·show GO p e below s₁ (mkF m 0 #[.val (.ref a1)] []) _
  refine XS.aloadN X0.here hx rfl (hb hby d16_0) rfl rfl ?_
  show GO p e below s₁ (mkF m 1 #[.val (.ref a1)] [(.ref a1)]) _
  refine XS.bipush X0.here hx rfl (hb hby d16_1) ?_
  show GO p e below s₁ (mkF m 3 #[.val (.ref a1)] [(.int 16), (.ref a1)]) _
  refine st59.trans ?_
  show GO p e below T59 (mkF m 6 #[.val (.ref a1)] []) _
  exact X59.returnOut hx Bd.returns (hb hby d16_6) hr
 ·show Qrm_bi Z a1 u1 u2 z0 h0 n0 _ T59.heap _
  rw [e59]
  exact ⟨d_59, k_59, rfl, N59, ((Keep.refl h0 [a1]).trans K59 (allS (P := fun x => x ∈ _ ∨ _) (Or.inl (List.mem_of_getElem? (i := 0) rfl)) all0)), p59_0, p59_1, p59_2, p59_3, p59_4, r59_0⟩
def Qrm_sc (Z : State) (x1 : Addr) (z0 : Int32) (h0 : Heap) (n0 : Nat) (v : Option Value) (h : Heap) (L : List Loc) : Prop := v = some (.int 0) ∧ Fr n0 L ∧ h = h0
theorem ef_rm_sc (m : MethodId) (x0 : Addr) : entryFrame m #[(.ref x0)] 1 = mkF m 0 #[.val (.ref x0)] [] := by first | rfl | (simp [entryFrame, mkF, argsToLocals, Value.category]; done)
theorem rm_sc (l : Launch) (Z : State) (a0 : Array Value) (hw : HW Z a0) (ws : List Jvm.Cond) (x1 : Addr) (z0 : Int32) (h0 : Heap) (n0 : Nat) (Z0 : n0 ≤ h0.size) (O0 : Old Z n0 h0) (Fc : Fld Z h0 x1 kS1 "coder" "B" (.int 0)) (SZc : Sta Z Z.heap kS1 "COMPACT_STRINGS" "Z" (.int z0)) (hz0 : ¬ z0 = 0) :
  OwnM l Z h0 (⟨kS1, "coder", "()B"⟩ : MethodName) (Jvm.Cond.code (⟨kS1, "coder", "()B"⟩ : MethodName) jdk_42_method_152_code 1 (some .byte) :: ws) (RM 0 0 0 0) #[(.ref x1)] (Qrm_sc Z x1 z0 h0 n0) := by
 refine MetFree.of_bodySF (plainFor_of_name pn_1) hisR ?_
 intro p e s m args below meth c s₁ Bd hml0 hP hK
 obtain ⟨rfl, hZ, hh⟩ := hP
 have hx := Bd.exec
 have hby := Bd.bytes
 have hml : c.maxLocals = 1 := hml0
 have hown : s.vm.findClass kS1 = some m.cls := findClass_of_methodNamed Bd.named
 have hnm := (name_of_methodNamed Bd.named Bd.method).1
 have X0 : Stand p l e (RM 0 0 0 0) s m #[(.ref x1)] below meth c s₁ [] 0 0 := Stand.of_body Bd
 have e0 : s₁.heap = h0 := by rw [← hh, Bd.state]; rfl
 have N0 := Fr.nil n0
 have pre0 : ∀ t, GO p e below s₁ (mkF m 0 #[.val (.ref x1)] []) t → GO p e below s₁ (entryFrame m #[(.ref x1)] 1) t := fun t k => castTop (ef_rm_sc m x1) k
 have lt_Fc := ltA Fc.lt
 have S60 : Sta Z h0 kS1 "COMPACT_STRINGS" "Z" (.int z0) := SZc.ext O0.2
 obtain ⟨T61, X61, e61, st61⟩ := getS2 X0 hx hZ hown (host := "") (Or.inl (wd hw 14 rfl)) Via.refl e0 S60 (g := (mkF m 0 #[.val (.ref x1)] [])) rfl (hb hby d21_0)
 obtain ⟨T62, X62, e62, st62⟩ := getF X61 hx hZ hown (host := "") (Or.inl (wd hw 26 rfl)) Via.refl e61 Fc (g := (mkF m 7 #[.val (.ref x1)] [(.ref x1)])) rfl rfl (hb hby d21_7)
 obtain ⟨fs, hr, hrun, hended, hW, hsame⟩ := X62.leave (v := some (.int (nar .byte (0 : Int32)))) (fun h => by rw [Bd.returns] at h; cases h)
 refine ⟨_, _, pre0 _ ?_, hrun, hended, _, _, rfl, ?_, ⟨_, rfl⟩, hW, hsame.mono (by decide) (by decide)⟩
 ·show GO p e below s₁ (mkF m 0 #[.val (.ref x1)] []) _
  refine st61 _ ?_
  show GO p e below T61 (mkF m 3 #[.val (.ref x1)] [(.int z0)]) _
  refine XS.ifNo X61.here hx rfl (hb hby d21_3) rfl ((if0 _ _).trans (feq ((by first | assumption | decide) : ¬ (z0 = (0 : Int32)))).1) ?_
  show GO p e below T61 (mkF m 6 #[.val (.ref x1)] []) _
  refine XS.aloadN X61.here hx rfl (hb hby d21_6) rfl rfl ?_
  show GO p e below T61 (mkF m 7 #[.val (.ref x1)] [(.ref x1)]) _
  refine st62 _ ?_
  show GO p e below T62 (mkF m 10 #[.val (.ref x1)] [(.int 0)]) _
  refine XS.goto X62.here hx rfl (pc0 := 10) (pc' := 14) rfl (hb hby d21_10) (by decide) (by decide) ?_
  show GO p e below T62 (mkF m 14 #[.val (.ref x1)] [(.int 0)]) _
  exact retN X62 hx (t := .byte) Bd.returns (by simp) (hb hby d21_14) hr
 ·show Qrm_sc Z x1 z0 h0 n0 _ T62.heap _
  rw [e62]
  exact ⟨rfl, N0, rfl⟩
def Qrm_sl2 (Z : State) (x1 : Addr) (t1 : Addr) (k1 : ClassId) (xs0 : Int32) (xs1 : Int32) (z0 : Int32) (h0 : Heap) (n0 : Nat) (v : Option Value) (h : Heap) (L : List Loc) : Prop := v = some (.int 2) ∧ Fr n0 L ∧ h = h0
theorem ef_rm_sl2 (m : MethodId) (x0 : Addr) : entryFrame m #[(.ref x0)] 1 = mkF m 0 #[.val (.ref x0)] [] := by first | rfl | (simp [entryFrame, mkF, argsToLocals, Value.category]; done)
theorem rm_sl2 (l : Launch) (Z : State) (a0 : Array Value) (hw : HW Z a0) (ws : List Jvm.Cond) (x1 : Addr) (t1 : Addr) (k1 : ClassId) (xs0 : Int32) (xs1 : Int32) (z0 : Int32) (h0 : Heap) (n0 : Nat) (Z0 : n0 ≤ h0.size) (O0 : Old Z n0 h0) (Esx1 : Exa Z h0 x1 kS1) (Fcx1 : Fld Z h0 x1 kS1 "coder" "B" (.int 0)) (Fvx1 : Fld Z h0 x1 kS1 "value" "[B" (.ref t1)) (Vsx1 : Arv Z h0 t1 k1 .byte (2 : Int32) [(.int xs0), (.int xs1)] (.int 0)) (SZc : Sta Z Z.heap kS1 "COMPACT_STRINGS" "Z" (.int z0)) (hz0 : ¬ z0 = 0) :
  OwnM l Z h0 (⟨kS1, "length", "()I"⟩ : MethodName) (Jvm.Cond.code (⟨kS1, "length", "()I"⟩ : MethodName) jdk_42_method_54_code 1 (some .int) :: ws) (RM 1 0 0 13) #[(.ref x1)] (Qrm_sl2 Z x1 t1 k1 xs0 xs1 z0 h0 n0) := by
 refine MetFree.of_bodySF (plainFor_of_name pn_1) hisR ?_
 intro p e s m args below meth c s₁ Bd hml0 hP hK
 obtain ⟨rfl, hZ, hh⟩ := hP
 have hx := Bd.exec
 have hby := Bd.bytes
 have hml : c.maxLocals = 1 := hml0
 have hown : s.vm.findClass kS1 = some m.cls := findClass_of_methodNamed Bd.named
 have hnm := (name_of_methodNamed Bd.named Bd.method).1
 have X0 : Stand p l e (RM 1 0 0 13) s m #[(.ref x1)] below meth c s₁ [] 0 0 := Stand.of_body Bd
 have e0 : s₁.heap = h0 := by rw [← hh, Bd.state]; rfl
 have N0 := Fr.nil n0
 have pre0 : ∀ t, GO p e below s₁ (mkF m 0 #[.val (.ref x1)] []) t → GO p e below s₁ (entryFrame m #[(.ref x1)] 1) t := fun t k => castTop (ef_rm_sl2 m x1) k
 have lt_Esx1 := ltA Esx1.lt
 have lt_Fcx1 := ltA Fcx1.lt
 have lt_Fvx1 := ltA Fvx1.lt
 have lt_Vsx1 := ltA Vsx1.lt
 obtain ⟨T63, X63, e63, st63⟩ := getF X0 hx hZ hown (host := "") (Or.inl (wd hw 28 rfl)) Via.refl e0 Fvx1 (g := (mkF m 1 #[.val (.ref x1)] [(.ref x1)])) rfl rfl (hb hby d20_1)
 obtain ⟨cl64, Ar64, -, S64, M64, -, -⟩ := id Vsx1
 -- pc 6: String.coder by rm_sc
 obtain ⟨cq65, kq65, q65a, q65b, q65c⟩ := isOf hZ e63 Esx1
 obtain ⟨_, _, ⟨T65, L65, k65, n65⟩, -, X65, ⟨Lc65, hQ65, l65, y65, z65⟩, st65⟩ := X63.virtualBack hx (y := (⟨kS1, "coder", "()B"⟩ : MethodName)) (z := (⟨kS1, "coder", "()B"⟩ : MethodName)) hown (mvT hZ (wd hw 110 rfl)) (mvT hZ (wd hw 111 rfl)) (notFace_of_selects (args := #[]) (mvT hZ (wd hw 113 rfl))) (mvT hZ (wd hw 113 rfl)) (mvT hZ (wd hw 112 rfl)) (by decide) (backOf (W := 1) (rm_sc l Z a0 hw [] x1 z0 h0 n0 Z0 O0 Fcx1 (by first | assumption | decide | omega) (by first | assumption | decide | omega)) hZ (wd hw 114 rfl) (wd hw 2 rfl) (by decide) (by decide)) q65a q65c (g := (mkF m 6 #[.val (.ref x1)] [(.ref x1), (.int 2)])) rfl (by rw [hml]; rfl) (Steps.refl _) (argsL := []) (rest := [(.int 2)]) (lenOf pd_7 rfl) rfl (wz rfl) (hb hby d20_6) (fun _ _ => ⟨rfl, e63, (by decide : 0 + 0 ≤ _), (by decide : 0 + 0 ≤ _)⟩)
 dsimp only [Pt.U, Pt.locs, Pt.cells, Pt.slots] at X65 l65 y65 z65 st65 hQ65
 rw [l65, y65, z65] at X65
 obtain ⟨rfl, N65q, e65⟩ := hQ65
 have N65 := Fr.app N0 N65q
 obtain ⟨fs, hr, hrun, hended, hW, hsame⟩ := X65.leave (v := some (.int 2)) (fun h => by rw [Bd.returns] at h; cases h)
 refine ⟨_, _, pre0 _ ?_, hrun, hended, _, _, rfl, ?_, ⟨_, rfl⟩, hW, hsame.mono (by decide) (by decide)⟩
 ·show GO p e below s₁ (mkF m 0 #[.val (.ref x1)] []) _
  refine XS.aloadN X0.here hx rfl (hb hby d20_0) rfl rfl ?_
  show GO p e below s₁ (mkF m 1 #[.val (.ref x1)] [(.ref x1)]) _
  refine st63 _ ?_
  show GO p e below T63 (mkF m 4 #[.val (.ref x1)] [(.ref t1)]) _
  refine X63.arraylength hx (by rw [e63]; exact Ar64.1) (State.isArrayOf_alike hZ.alike Ar64.2.1) (g := (mkF m 4 #[.val (.ref x1)] [(.ref t1)])) rfl rfl (hb hby d20_4) _ ?_
  rw [len_of S64 M64]
  show GO p e below T63 (mkF m 5 #[.val (.ref x1)] [(.int 2)]) _
  refine XS.aloadN X63.here hx rfl (hb hby d20_5) rfl rfl ?_
  show GO p e below T63 (mkF m 6 #[.val (.ref x1)] [(.ref x1), (.int 2)]) _
  refine st65.trans ?_
  show GO p e below T65 (mkF m 9 #[.val (.ref x1)] [(.int 0), (.int 2)]) _
  refine XS.ishr X65.here hx rfl (hb hby d20_9) rfl ?_
  rw [show ((2 : Int32) >>> ((0 : Int32) &&& 31)) = (2 : Int32) from by decide]
  show GO p e below T65 (mkF m 10 #[.val (.ref x1)] [(.int 2)]) _
  exact retI X65 hx Bd.returns (hb hby d20_10) hr
 ·show Qrm_sl2 Z x1 t1 k1 xs0 xs1 z0 h0 n0 _ T65.heap _
  rw [e65]
  exact ⟨rfl, N65, rfl⟩
def Qrm_en_16 (Z : State) (a1 : Addr) (d1 : Addr) (kd : ClassId) (vd : List Value) (p1 : Int32) (h0 : Heap) (n0 : Nat) (v : Option Value) (h : Heap) (L : List Loc) : Prop := v = none ∧ Fr n0 L ∧ h = h0
theorem ef_rm_en_16 (m : MethodId) (x0 : Addr) (x1 : Int32) : entryFrame m #[(.ref x0), (.int x1)] 3 = mkF m 0 (la2 x0 x1) [] := by first | rfl | (simp [entryFrame, mkF, argsToLocals, Value.category]; done)
theorem rm_en_16 (l : Launch) (Z : State) (a0 : Array Value) (hw : HW Z a0) (ws : List Jvm.Cond) (a1 : Addr) (d1 : Addr) (kd : ClassId) (vd : List Value) (p1 : Int32) (h0 : Heap) (n0 : Nat) (Z0 : n0 ≤ h0.size) (Fbv : Fld Z h0 a1 kS0 "value" "[B" (.ref d1)) (Fbc : Fld Z h0 a1 kS0 "coder" "B" (.int 0)) (Vb : Arv Z h0 d1 kd .byte (16 : Int32) vd (.int 0)) (he : ¬ (0 : Int32) < (p1 - (16 : Int32))) :
  OwnM l Z h0 (⟨kS0, "ensureCapacityInternal", "(I)V"⟩ : MethodName) (Jvm.Cond.code (⟨kS0, "ensureCapacityInternal", "(I)V"⟩ : MethodName) jdk_68_method_9_code 3 none :: ws) (RM 0 0 0 0) #[(.ref a1), (.int p1)] (Qrm_en_16 Z a1 d1 kd vd p1 h0 n0) := by
 refine MetFree.of_bodySF (plainFor_of_name pn_6) hisR ?_
 intro p e s m args below meth c s₁ Bd hml0 hP hK
 obtain ⟨rfl, hZ, hh⟩ := hP
 have hx := Bd.exec
 have hby := Bd.bytes
 have hml : c.maxLocals = 3 := hml0
 have hown : s.vm.findClass kS0 = some m.cls := findClass_of_methodNamed Bd.named
 have hnm := (name_of_methodNamed Bd.named Bd.method).1
 have X0 : Stand p l e (RM 0 0 0 0) s m #[(.ref a1), (.int p1)] below meth c s₁ [] 0 0 := Stand.of_body Bd
 have e0 : s₁.heap = h0 := by rw [← hh, Bd.state]; rfl
 have N0 := Fr.nil n0
 have pre0 : ∀ t, GO p e below s₁ (mkF m 0 (la2 a1 p1) []) t → GO p e below s₁ (entryFrame m #[(.ref a1), (.int p1)] 3) t := fun t k => castTop (ef_rm_en_16 m a1 p1) k
 have lt_Fbv := ltA Fbv.lt
 have lt_Fbc := ltA Fbc.lt
 have lt_Vb := ltA Vb.lt
 obtain ⟨T66, X66, e66, st66⟩ := getF X0 hx hZ hown (host := "") (Or.inl (wd hw 91 rfl)) Via.refl e0 Fbv (g := (mkF m 1 (la2 a1 p1) [(.ref a1)])) rfl rfl (hb hby d22_1)
 obtain ⟨cl67, Ar67, -, S67, M67, -, -⟩ := id Vb
 obtain ⟨T68, X68, e68, st68⟩ := getF X66 hx hZ hown (host := "") (Or.inl (wd hw 93 rfl)) Via.refl e66 Fbc (g := (mkF m 6 (la2 a1 p1) [(.ref a1), (.int 16)])) rfl rfl (hb hby d22_6)
 obtain ⟨fs, hr, hrun, hended, hW, hsame⟩ := X68.leave (v := none) (fun _ => rfl)
 refine ⟨_, _, pre0 _ ?_, hrun, hended, _, _, rfl, ?_, ⟨_, rfl⟩, hW, hsame.mono (by decide) (by decide)⟩
 ·show GO p e below s₁ (mkF m 0 (la2 a1 p1) []) _
  refine XS.aloadN X0.here hx rfl (hb hby d22_0) rfl rfl ?_
  show GO p e below s₁ (mkF m 1 (la2 a1 p1) [(.ref a1)]) _
  refine st66 _ ?_
  show GO p e below T66 (mkF m 4 (la2 a1 p1) [(.ref d1)]) _
  refine X66.arraylength hx (by rw [e66]; exact Ar67.1) (State.isArrayOf_alike hZ.alike Ar67.2.1) (g := (mkF m 4 (la2 a1 p1) [(.ref d1)])) rfl rfl (hb hby d22_4) _ ?_
  rw [len_of S67 M67]
  show GO p e below T66 (mkF m 5 (la2 a1 p1) [(.int 16)]) _
  refine XS.aloadN X66.here hx rfl (hb hby d22_5) rfl rfl ?_
  show GO p e below T66 (mkF m 6 (la2 a1 p1) [(.ref a1), (.int 16)]) _
  refine st68 _ ?_
  show GO p e below T68 (mkF m 9 (la2 a1 p1) [(.int 0), (.int 16)]) _
  refine XS.ishr X68.here hx rfl (hb hby d22_9) rfl ?_
  rw [show ((16 : Int32) >>> ((0 : Int32) &&& 31)) = (16 : Int32) from by decide]
  show GO p e below T68 (mkF m 10 (la2 a1 p1) [(.int 16)]) _
  refine XS.istoreN X68.here hx rfl (hb hby d22_10) rfl (l' := (la3 a1 p1 (16 : Int32))) rfl ?_
  show GO p e below T68 (mkF m 11 (la3 a1 p1 (16 : Int32)) []) _
  refine XS.iloadN X68.here hx rfl (hb hby d22_11) rfl ?_
  show GO p e below T68 (mkF m 12 (la3 a1 p1 (16 : Int32)) [(.int p1)]) _
  refine XS.iloadN X68.here hx rfl (hb hby d22_12) rfl ?_
  show GO p e below T68 (mkF m 13 (la3 a1 p1 (16 : Int32)) [(.int 16), (.int p1)]) _
  refine XS.isub X68.here hx rfl (hb hby d22_13) rfl ?_
  show GO p e below T68 (mkF m 14 (la3 a1 p1 (16 : Int32)) [(.int (p1 - (16 : Int32)))]) _
  refine XS.ifYes X68.here hx rfl (pc0 := 14) (pc' := 38) rfl (hb hby d22_14) rfl ((if0 _ _).trans (flt (he : ¬ ((0 : Int32) < (p1 - (16 : Int32))))).2.2.2) (by decide) (by decide) ?_
  show GO p e below T68 (mkF m 38 (la3 a1 p1 (16 : Int32)) []) _
  exact X68.returnOut hx Bd.returns (hb hby d22_38) hr
 ·show Qrm_en_16 Z a1 d1 kd vd p1 h0 n0 _ T68.heap _
  rw [e68]
  exact ⟨rfl, N0, rfl⟩
def Qrm_inf (Z : State) (a1 : Addr) (x1 : Addr) (z0 : Int32) (h0 : Heap) (n0 : Nat) (v : Option Value) (h : Heap) (L : List Loc) : Prop := v = none ∧ Fr n0 L ∧ h = h0
theorem ef_rm_inf (m : MethodId) (x0 : Addr) (x1 : Addr) : entryFrame m #[(.ref x0), (.ref x1)] 2 = mkF m 0 #[.val (.ref x0), .val (.ref x1)] [] := by first | rfl | (simp [entryFrame, mkF, argsToLocals, Value.category]; done)
theorem rm_inf (l : Launch) (Z : State) (a0 : Array Value) (hw : HW Z a0) (ws : List Jvm.Cond) (a1 : Addr) (x1 : Addr) (z0 : Int32) (h0 : Heap) (n0 : Nat) (Z0 : n0 ≤ h0.size) (O0 : Old Z n0 h0) (Fbc : Fld Z h0 a1 kS0 "coder" "B" (.int 0)) (Es : Exa Z h0 x1 kS1) (Fc : Fld Z h0 x1 kS1 "coder" "B" (.int 0)) (SZc : Sta Z Z.heap kS1 "COMPACT_STRINGS" "Z" (.int z0)) (hz0 : ¬ z0 = 0) :
  OwnM l Z h0 (⟨kS0, "inflateIfNeededFor", "(Ljava/lang/String;)V"⟩ : MethodName) (Jvm.Cond.code (⟨kS0, "inflateIfNeededFor", "(Ljava/lang/String;)V"⟩ : MethodName) jdk_68_method_71_code 2 none :: ws) (RM 1 0 0 13) #[(.ref a1), (.ref x1)] (Qrm_inf Z a1 x1 z0 h0 n0) := by
 refine MetFree.of_bodySF (plainFor_of_name pn_6) hisR ?_
 intro p e s m args below meth c s₁ Bd hml0 hP hK
 obtain ⟨rfl, hZ, hh⟩ := hP
 have hx := Bd.exec
 have hby := Bd.bytes
 have hml : c.maxLocals = 2 := hml0
 have hown : s.vm.findClass kS0 = some m.cls := findClass_of_methodNamed Bd.named
 have hnm := (name_of_methodNamed Bd.named Bd.method).1
 have X0 : Stand p l e (RM 1 0 0 13) s m #[(.ref a1), (.ref x1)] below meth c s₁ [] 0 0 := Stand.of_body Bd
 have e0 : s₁.heap = h0 := by rw [← hh, Bd.state]; rfl
 have N0 := Fr.nil n0
 have pre0 : ∀ t, GO p e below s₁ (mkF m 0 #[.val (.ref a1), .val (.ref x1)] []) t → GO p e below s₁ (entryFrame m #[(.ref a1), (.ref x1)] 2) t := fun t k => castTop (ef_rm_inf m a1 x1) k
 have lt_Fbc := ltA Fbc.lt
 have lt_Es := ltA Es.lt
 have lt_Fc := ltA Fc.lt
 have S69 : Sta Z h0 kS1 "COMPACT_STRINGS" "Z" (.int z0) := SZc.ext O0.2
 obtain ⟨T70, X70, e70, st70⟩ := getS2 X0 hx hZ hown (host := "") (Or.inl (wd hw 90 rfl)) Via.refl e0 S69 (g := (mkF m 0 #[.val (.ref a1), .val (.ref x1)] [])) rfl (hb hby d24_0)
 obtain ⟨T71, X71, e71, st71⟩ := getF X70 hx hZ hown (host := "") (Or.inl (wd hw 93 rfl)) Via.refl e70 Fbc (g := (mkF m 7 #[.val (.ref a1), .val (.ref x1)] [(.ref a1)])) rfl rfl (hb hby d24_7)
 -- pc 11: String.coder by rm_sc
 obtain ⟨cq72, kq72, q72a, q72b, q72c⟩ := isOf hZ e71 Es
 obtain ⟨_, _, ⟨T72, L72, k72, n72⟩, -, X72, ⟨Lc72, hQ72, l72, y72, z72⟩, st72⟩ := X71.virtualBack hx (y := (⟨kS1, "coder", "()B"⟩ : MethodName)) (z := (⟨kS1, "coder", "()B"⟩ : MethodName)) hown (mvT hZ (wd hw 132 rfl)) (mvT hZ (wd hw 111 rfl)) (notFace_of_selects (args := #[]) (mvT hZ (wd hw 113 rfl))) (mvT hZ (wd hw 113 rfl)) (mvT hZ (wd hw 112 rfl)) (by decide) (backOf (W := 1) (rm_sc l Z a0 hw [] x1 z0 h0 n0 Z0 O0 Fc (by first | assumption | decide | omega) (by first | assumption | decide | omega)) hZ (wd hw 114 rfl) (wd hw 2 rfl) (by decide) (by decide)) q72a q72c (g := (mkF m 11 #[.val (.ref a1), .val (.ref x1)] [(.ref x1), (.int 0)])) rfl (by rw [hml]; rfl) (Steps.refl _) (argsL := []) (rest := [(.int 0)]) (lenOf pd_7 rfl) rfl (wz rfl) (hb hby d24_11) (fun _ _ => ⟨rfl, e71, (by decide : 0 + 0 ≤ _), (by decide : 0 + 0 ≤ _)⟩)
 dsimp only [Pt.U, Pt.locs, Pt.cells, Pt.slots] at X72 l72 y72 z72 st72 hQ72
 rw [l72, y72, z72] at X72
 obtain ⟨rfl, N72q, e72⟩ := hQ72
 have N72 := Fr.app N0 N72q
 obtain ⟨fs, hr, hrun, hended, hW, hsame⟩ := X72.leave (v := none) (fun _ => rfl)
 refine ⟨_, _, pre0 _ ?_, hrun, hended, _, _, rfl, ?_, ⟨_, rfl⟩, hW, hsame.mono (by decide) (by decide)⟩
 ·show GO p e below s₁ (mkF m 0 #[.val (.ref a1), .val (.ref x1)] []) _
  refine st70 _ ?_
  show GO p e below T70 (mkF m 3 #[.val (.ref a1), .val (.ref x1)] [(.int z0)]) _
  refine XS.ifNo X70.here hx rfl (hb hby d24_3) rfl ((if0 _ _).trans (feq ((by first | assumption | decide) : ¬ (z0 = (0 : Int32)))).1) ?_
  show GO p e below T70 (mkF m 6 #[.val (.ref a1), .val (.ref x1)] []) _
  refine XS.aloadN X70.here hx rfl (hb hby d24_6) rfl rfl ?_
  show GO p e below T70 (mkF m 7 #[.val (.ref a1), .val (.ref x1)] [(.ref a1)]) _
  refine st71 _ ?_
  show GO p e below T71 (mkF m 10 #[.val (.ref a1), .val (.ref x1)] [(.int 0)]) _
  refine XS.aloadN X71.here hx rfl (hb hby d24_10) rfl rfl ?_
  show GO p e below T71 (mkF m 11 #[.val (.ref a1), .val (.ref x1)] [(.ref x1), (.int 0)]) _
  refine st72.trans ?_
  show GO p e below T72 (mkF m 14 #[.val (.ref a1), .val (.ref x1)] [(.int 0), (.int 0)]) _
  refine XS.icmpYes X72.here hx rfl (pc0 := 14) (pc' := 21) rfl (hb hby d24_14) rfl (teq (rfl : (0 : Int32) = (0 : Int32))).1 (by decide) (by decide) ?_
  show GO p e below T72 (mkF m 21 #[.val (.ref a1), .val (.ref x1)] []) _
  exact X72.returnOut hx Bd.returns (hb hby d24_21) hr
 ·show Qrm_inf Z a1 x1 z0 h0 n0 _ T72.heap _
  rw [e72]
  exact ⟨rfl, N72, rfl⟩
def Qrm_gb_2_0_16 (Z : State) (x1 : Addr) (t1 : Addr) (k1 : ClassId) (xs0 : Int32) (xs1 : Int32) (d1 : Addr) (kd : ClassId) (z0 : Int32) (h0 : Heap) (n0 : Nat) (v : Option Value) (h : Heap) (L : List Loc) : Prop := v = none ∧ Fr n0 L ∧ Keep h0 h [d1] ∧ Arv Z h d1 kd .byte (16 : Int32) [(.int xs0), (.int xs1), (.int 0), (.int 0), (.int 0), (.int 0), (.int 0), (.int 0), (.int 0), (.int 0), (.int 0), (.int 0), (.int 0), (.int 0), (.int 0), (.int 0)] (.int 0)
theorem ef_rm_gb_2_0_16 (m : MethodId) (x0 : Addr) (x1 : Addr) (x2 : Int32) (x3 : Int32) : entryFrame m #[(.ref x0), (.ref x1), (.int x2), (.int x3)] 4 = mkF m 0 (la4 x0 x1 x2 x3) [] := by first | rfl | (simp [entryFrame, mkF, argsToLocals, Value.category]; done)
theorem rm_gb_2_0_16 (l : Launch) (Z : State) (a0 : Array Value) (hw : HW Z a0) (ws : List Jvm.Cond) (x1 : Addr) (t1 : Addr) (k1 : ClassId) (xs0 : Int32) (xs1 : Int32) (d1 : Addr) (kd : ClassId) (z0 : Int32) (h0 : Heap) (n0 : Nat) (Z0 : n0 ≤ h0.size) (O0 : Old Z n0 h0) (Esx1 : Exa Z h0 x1 kS1) (Fcx1 : Fld Z h0 x1 kS1 "coder" "B" (.int 0)) (Fvx1 : Fld Z h0 x1 kS1 "value" "[B" (.ref t1)) (Vsx1 : Arv Z h0 t1 k1 .byte (2 : Int32) [(.int xs0), (.int xs1)] (.int 0)) (Vd : Arv Z h0 d1 kd .byte (16 : Int32) [(.int 0), (.int 0), (.int 0), (.int 0), (.int 0), (.int 0), (.int 0), (.int 0), (.int 0), (.int 0), (.int 0), (.int 0), (.int 0), (.int 0), (.int 0), (.int 0)] (.int 0)) (SZc : Sta Z Z.heap kS1 "COMPACT_STRINGS" "Z" (.int z0)) (hz0 : ¬ z0 = 0) (gd : n0 ≤ d1) (ned : t1 ≠ d1) :
  OwnM l Z h0 (⟨kS1, "getBytes", "([BIB)V"⟩ : MethodName) (Jvm.Cond.code (⟨kS1, "getBytes", "([BIB)V"⟩ : MethodName) jdk_42_method_147_code 4 none :: ws) (RM 1 0 0 18) #[(.ref x1), (.ref d1), (.int 0), (.int 0)] (Qrm_gb_2_0_16 Z x1 t1 k1 xs0 xs1 d1 kd z0 h0 n0) := by
 refine MetFree.of_bodySF (plainFor_of_name pn_1) hisR ?_
 intro p e s m args below meth c s₁ Bd hml0 hP hK
 obtain ⟨rfl, hZ, hh⟩ := hP
 have hx := Bd.exec
 have hby := Bd.bytes
 have hml : c.maxLocals = 4 := hml0
 have hown : s.vm.findClass kS1 = some m.cls := findClass_of_methodNamed Bd.named
 have hnm := (name_of_methodNamed Bd.named Bd.method).1
 have X0 : Stand p l e (RM 1 0 0 18) s m #[(.ref x1), (.ref d1), (.int 0), (.int 0)] below meth c s₁ [] 0 0 := Stand.of_body Bd
 have e0 : s₁.heap = h0 := by rw [← hh, Bd.state]; rfl
 have N0 := Fr.nil n0
 have pre0 : ∀ t, GO p e below s₁ (mkF m 0 (la4 x1 d1 (0 : Int32) (0 : Int32)) []) t → GO p e below s₁ (entryFrame m #[(.ref x1), (.ref d1), (.int 0), (.int 0)] 4) t := fun t k => castTop (ef_rm_gb_2_0_16 m x1 d1 ((0 : Int32)) ((0 : Int32))) k
 have lt_Esx1 := ltA Esx1.lt
 have lt_Fcx1 := ltA Fcx1.lt
 have lt_Fvx1 := ltA Fvx1.lt
 have lt_Vsx1 := ltA Vsx1.lt
 have lt_Vd := ltA Vd.lt
 -- pc 1: String.coder by rm_sc
 obtain ⟨cq73, kq73, q73a, q73b, q73c⟩ := isOf hZ e0 Esx1
 obtain ⟨_, _, ⟨T73, L73, k73, n73⟩, -, X73, ⟨Lc73, hQ73, l73, y73, z73⟩, st73⟩ := X0.virtualBack hx (y := (⟨kS1, "coder", "()B"⟩ : MethodName)) (z := (⟨kS1, "coder", "()B"⟩ : MethodName)) hown (mvT hZ (wd hw 110 rfl)) (mvT hZ (wd hw 111 rfl)) (notFace_of_selects (args := #[]) (mvT hZ (wd hw 113 rfl))) (mvT hZ (wd hw 113 rfl)) (mvT hZ (wd hw 112 rfl)) (by decide) (backOf (W := 0) (rm_sc l Z a0 hw [] x1 z0 h0 n0 Z0 O0 Fcx1 (by first | assumption | decide | omega) (by first | assumption | decide | omega)) hZ (wd hw 114 rfl) (wd hw 2 rfl) (by decide) (by decide)) q73a q73c (g := (mkF m 1 (la4 x1 d1 (0 : Int32) (0 : Int32)) [(.ref x1)])) rfl (by rw [hml]; rfl) (Steps.refl _) (argsL := []) (rest := []) (lenOf pd_7 rfl) rfl (wz rfl) (hb hby d25_1) (fun _ _ => ⟨rfl, e0, (by decide : 0 + 0 ≤ _), (by decide : 0 + 0 ≤ _)⟩)
 dsimp only [Pt.U, Pt.locs, Pt.cells, Pt.slots] at X73 l73 y73 z73 st73 hQ73
 rw [l73, y73, z73] at X73
 obtain ⟨rfl, N73q, e73⟩ := hQ73
 have N73 := Fr.app N0 N73q
 obtain ⟨T74, X74, e74, st74⟩ := getF X73 hx hZ hown (host := "") (Or.inl (wd hw 28 rfl)) Via.refl e73 Fvx1 (g := (mkF m 9 (la4 x1 d1 (0 : Int32) (0 : Int32)) [(.ref x1)])) rfl rfl (hb hby d25_9)
 obtain ⟨T75, X75, e75, st75⟩ := getF X74 hx hZ hown (host := "") (Or.inl (wd hw 28 rfl)) Via.refl e74 Fvx1 (g := (mkF m 18 (la4 x1 d1 (0 : Int32) (0 : Int32)) [(.ref x1), (.int 0), (.ref d1), (.int 0), (.ref t1)])) rfl rfl (hb hby d25_18)
 obtain ⟨cl76, Ar76, -, S76, M76, -, -⟩ := id Vsx1
 obtain ⟨T77, h77, L77, X77, e77, N77, K77, A77, st77⟩ := cpA X75 hx hZ hown (wd hw 138 rfl) (wd hw 141 rfl) (wd hw 139 rfl) (wd hw 140 rfl) e75 Vsx1 Vd (us := [(.int xs0), (.int xs1)]) (Or.inl ⟨rfl, rfl⟩) (by decide) (by decide) (by decide) (by decide) (by decide) rfl (Nat.le_of_ble_eq_true rfl) N73 (by omega) (g := (mkF m 22 (la4 x1 d1 (0 : Int32) (0 : Int32)) [(.int 2), (.int 0), (.ref d1), (.int 0), (.ref t1)])) rfl (by rw [hml]; rfl) rfl (hb hby d25_22) (by decide) (W := 0) (wz rfl) (by decide)
 have sz77 : h0.size ≤ h77.size := K77.1
 have nz77 := Nat.le_trans Z0 sz77
 have V77 : Arv Z h77 d1 kd .byte (16 : Int32) [(.int xs0), (.int xs1), (.int 0), (.int 0), (.int 0), (.int 0), (.int 0), (.int 0), (.int 0), (.int 0), (.int 0), (.int 0), (.int 0), (.int 0), (.int 0), (.int 0)] (.int 0) := A77
 obtain ⟨fs, hr, hrun, hended, hW, hsame⟩ := X77.leave (v := none) (fun _ => rfl)
 refine ⟨_, _, pre0 _ ?_, hrun, hended, _, _, rfl, ?_, ⟨_, rfl⟩, hW, hsame.mono (by decide) (by decide)⟩
 ·show GO p e below s₁ (mkF m 0 (la4 x1 d1 (0 : Int32) (0 : Int32)) []) _
  refine XS.aloadN X0.here hx rfl (hb hby d25_0) rfl rfl ?_
  show GO p e below s₁ (mkF m 1 (la4 x1 d1 (0 : Int32) (0 : Int32)) [(.ref x1)]) _
  refine st73.trans ?_
  show GO p e below T73 (mkF m 4 (la4 x1 d1 (0 : Int32) (0 : Int32)) [(.int 0)]) _
  refine XS.iloadN X73.here hx rfl (hb hby d25_4) rfl ?_
  show GO p e below T73 (mkF m 5 (la4 x1 d1 (0 : Int32) (0 : Int32)) [(.int 0), (.int 0)]) _
  refine XS.icmpNo X73.here hx rfl (hb hby d25_5) rfl (teq (rfl : (0 : Int32) = (0 : Int32))).2 ?_
  show GO p e below T73 (mkF m 8 (la4 x1 d1 (0 : Int32) (0 : Int32)) []) _
  refine XS.aloadN X73.here hx rfl (hb hby d25_8) rfl rfl ?_
  show GO p e below T73 (mkF m 9 (la4 x1 d1 (0 : Int32) (0 : Int32)) [(.ref x1)]) _
  refine st74 _ ?_
  show GO p e below T74 (mkF m 12 (la4 x1 d1 (0 : Int32) (0 : Int32)) [(.ref t1)]) _
  refine XS.iconst X74.here hx rfl (hb hby d25_12) ?_
  show GO p e below T74 (mkF m 13 (la4 x1 d1 (0 : Int32) (0 : Int32)) [(.int 0), (.ref t1)]) _
  refine XS.aloadN X74.here hx rfl (hb hby d25_13) rfl rfl ?_
  show GO p e below T74 (mkF m 14 (la4 x1 d1 (0 : Int32) (0 : Int32)) [(.ref d1), (.int 0), (.ref t1)]) _
  refine XS.iloadN X74.here hx rfl (hb hby d25_14) rfl ?_
  show GO p e below T74 (mkF m 15 (la4 x1 d1 (0 : Int32) (0 : Int32)) [(.int 0), (.ref d1), (.int 0), (.ref t1)]) _
  refine XS.iloadN X74.here hx rfl (hb hby d25_15) rfl ?_
  show GO p e below T74 (mkF m 16 (la4 x1 d1 (0 : Int32) (0 : Int32)) [(.int 0), (.int 0), (.ref d1), (.int 0), (.ref t1)]) _
  refine XS.ishl X74.here hx rfl (hb hby d25_16) rfl ?_
  rw [show ((0 : Int32) <<< ((0 : Int32) &&& 31)) = (0 : Int32) from by decide]
  show GO p e below T74 (mkF m 17 (la4 x1 d1 (0 : Int32) (0 : Int32)) [(.int 0), (.ref d1), (.int 0), (.ref t1)]) _
  refine XS.aloadN X74.here hx rfl (hb hby d25_17) rfl rfl ?_
  show GO p e below T74 (mkF m 18 (la4 x1 d1 (0 : Int32) (0 : Int32)) [(.ref x1), (.int 0), (.ref d1), (.int 0), (.ref t1)]) _
  refine st75 _ ?_
  show GO p e below T75 (mkF m 21 (la4 x1 d1 (0 : Int32) (0 : Int32)) [(.ref t1), (.int 0), (.ref d1), (.int 0), (.ref t1)]) _
  refine X75.arraylength hx (by rw [e75]; exact Ar76.1) (State.isArrayOf_alike hZ.alike Ar76.2.1) (g := (mkF m 21 (la4 x1 d1 (0 : Int32) (0 : Int32)) [(.ref t1), (.int 0), (.ref d1), (.int 0), (.ref t1)])) rfl rfl (hb hby d25_21) _ ?_
  rw [len_of S76 M76]
  show GO p e below T75 (mkF m 22 (la4 x1 d1 (0 : Int32) (0 : Int32)) [(.int 2), (.int 0), (.ref d1), (.int 0), (.ref t1)]) _
  refine st77 _ ?_
  show GO p e below T77 (mkF m 25 (la4 x1 d1 (0 : Int32) (0 : Int32)) []) _
  refine XS.goto X77.here hx rfl (pc0 := 25) (pc' := 43) rfl (hb hby d25_25) (by decide) (by decide) ?_
  show GO p e below T77 (mkF m 43 (la4 x1 d1 (0 : Int32) (0 : Int32)) []) _
  exact X77.returnOut hx Bd.returns (hb hby d25_43) hr
 ·show Qrm_gb_2_0_16 Z x1 t1 k1 xs0 xs1 d1 kd z0 h0 n0 _ T77.heap _
  rw [e77]
  exact ⟨rfl, N77, ((Keep.refl h0 [d1]).trans K77 (allS (P := fun x => x ∈ _ ∨ _) (Or.inl (List.mem_of_getElem? (i := 0) rfl)) all0)), V77⟩
def Qrm_ps_2_0_16 (Z : State) (x1 : Addr) (t1 : Addr) (k1 : ClassId) (xs0 : Int32) (xs1 : Int32) (a1 : Addr) (d1 : Addr) (kd : ClassId) (z0 : Int32) (h0 : Heap) (n0 : Nat) (v : Option Value) (h : Heap) (L : List Loc) : Prop := v = none ∧ Fr n0 L ∧ Keep h0 h [d1] ∧ Arv Z h d1 kd .byte (16 : Int32) [(.int xs0), (.int xs1), (.int 0), (.int 0), (.int 0), (.int 0), (.int 0), (.int 0), (.int 0), (.int 0), (.int 0), (.int 0), (.int 0), (.int 0), (.int 0), (.int 0)] (.int 0)
theorem ef_rm_ps_2_0_16 (m : MethodId) (x0 : Addr) (x1 : Int32) (x2 : Addr) : entryFrame m #[(.ref x0), (.int x1), (.ref x2)] 3 = mkF m 0 (la5 x0 x1 x2) [] := by first | rfl | (simp [entryFrame, mkF, argsToLocals, Value.category]; done)
theorem rm_ps_2_0_16 (l : Launch) (Z : State) (a0 : Array Value) (hw : HW Z a0) (ws : List Jvm.Cond) (x1 : Addr) (t1 : Addr) (k1 : ClassId) (xs0 : Int32) (xs1 : Int32) (a1 : Addr) (d1 : Addr) (kd : ClassId) (z0 : Int32) (h0 : Heap) (n0 : Nat) (Z0 : n0 ≤ h0.size) (O0 : Old Z n0 h0) (Esx1 : Exa Z h0 x1 kS1) (Fcx1 : Fld Z h0 x1 kS1 "coder" "B" (.int 0)) (Fvx1 : Fld Z h0 x1 kS1 "value" "[B" (.ref t1)) (Vsx1 : Arv Z h0 t1 k1 .byte (2 : Int32) [(.int xs0), (.int xs1)] (.int 0)) (Eb : Exa Z h0 a1 kS2) (Fbv : Fld Z h0 a1 kS0 "value" "[B" (.ref d1)) (Fbc : Fld Z h0 a1 kS0 "coder" "B" (.int 0)) (Fbn : Fld Z h0 a1 kS0 "count" "I" (.int 0)) (Vb : Arv Z h0 d1 kd .byte (16 : Int32) [(.int 0), (.int 0), (.int 0), (.int 0), (.int 0), (.int 0), (.int 0), (.int 0), (.int 0), (.int 0), (.int 0), (.int 0), (.int 0), (.int 0), (.int 0), (.int 0)] (.int 0)) (SZc : Sta Z Z.heap kS1 "COMPACT_STRINGS" "Z" (.int z0)) (hz0 : ¬ z0 = 0) (gd : n0 ≤ d1) (ned : t1 ≠ d1) :
  OwnM l Z h0 (⟨kS0, "putStringAt", "(ILjava/lang/String;)V"⟩ : MethodName) (Jvm.Cond.code (⟨kS0, "putStringAt", "(ILjava/lang/String;)V"⟩ : MethodName) jdk_68_method_73_code 3 none :: ws) (RM 2 0 0 33) #[(.ref a1), (.int 0), (.ref x1)] (Qrm_ps_2_0_16 Z x1 t1 k1 xs0 xs1 a1 d1 kd z0 h0 n0) := by
 refine MetFree.of_bodySF (plainFor_of_name pn_6) hisR ?_
 intro p e s m args below meth c s₁ Bd hml0 hP hK
 obtain ⟨rfl, hZ, hh⟩ := hP
 have hx := Bd.exec
 have hby := Bd.bytes
 have hml : c.maxLocals = 3 := hml0
 have hown : s.vm.findClass kS0 = some m.cls := findClass_of_methodNamed Bd.named
 have hnm := (name_of_methodNamed Bd.named Bd.method).1
 have X0 : Stand p l e (RM 2 0 0 33) s m #[(.ref a1), (.int 0), (.ref x1)] below meth c s₁ [] 0 0 := Stand.of_body Bd
 have e0 : s₁.heap = h0 := by rw [← hh, Bd.state]; rfl
 have N0 := Fr.nil n0
 have pre0 : ∀ t, GO p e below s₁ (mkF m 0 (la5 a1 (0 : Int32) x1) []) t → GO p e below s₁ (entryFrame m #[(.ref a1), (.int 0), (.ref x1)] 3) t := fun t k => castTop (ef_rm_ps_2_0_16 m a1 ((0 : Int32)) x1) k
 have lt_Esx1 := ltA Esx1.lt
 have lt_Fcx1 := ltA Fcx1.lt
 have lt_Fvx1 := ltA Fvx1.lt
 have lt_Vsx1 := ltA Vsx1.lt
 have lt_Eb := ltA Eb.lt
 have lt_Fbv := ltA Fbv.lt
 have lt_Fbc := ltA Fbc.lt
 have lt_Fbn := ltA Fbn.lt
 have lt_Vb := ltA Vb.lt
 -- pc 2: AbstractStringBuilder.inflateIfNeededFor by rm_inf
 obtain ⟨cq78, q78a, q78b⟩ := Eb.cell
 obtain ⟨_, _, ⟨T78, L78, k78, n78⟩, -, X78, ⟨Lc78, hQ78, l78, y78, z78⟩, st78⟩ := X0.privateBack hx (y := (⟨kS0, "inflateIfNeededFor", "(Ljava/lang/String;)V"⟩ : MethodName)) hown (mvT hZ (wd hw 127 rfl)) (mvT hZ (wd hw 128 rfl)) (mvT hZ (own_selfsel (wd hw 130 rfl) (wd hw 129 rfl) (wd hw 128 rfl) (by decide))) (Cond.privateMethod_at (mvP hZ (wd hw 129 rfl) (args := #[]))) (mvT hZ (wd hw 131 rfl)) (by decide) (backOf (W := 0) (rm_inf l Z a0 hw [] a1 x1 z0 h0 n0 Z0 O0 Fbc Esx1 Fcx1 (by first | assumption | decide | omega) (by first | assumption | decide | omega)) hZ (wd hw 131 rfl) (wd hw 87 rfl) (by decide) (by decide)) (g := (mkF m 2 (la5 a1 (0 : Int32) x1) [(.ref x1), (.ref a1)])) rfl (by rw [hml]; rfl) (Steps.refl _) (a := a1) (by rw [e0]; exact q78a) q78b (argsL := [(.ref x1)]) (rest := []) (lenOf pd_8 rfl) rfl (wz rfl) (hb hby d23_2) (fun _ _ => ⟨rfl, e0, (by decide : 0 + 0 ≤ _), (by decide : 0 + 0 ≤ _)⟩)
 dsimp only [Pt.U, Pt.locs, Pt.cells, Pt.slots] at X78 l78 y78 z78 st78 hQ78
 rw [l78, y78, z78] at X78
 obtain ⟨rfl, N78q, e78⟩ := hQ78
 have N78 := Fr.app N0 N78q
 obtain ⟨T79, X79, e79, st79⟩ := getF X78 hx hZ hown (host := "") (Or.inl (wd hw 91 rfl)) Via.refl e78 Fbv (g := (mkF m 7 (la5 a1 (0 : Int32) x1) [(.ref a1), (.ref x1)])) rfl rfl (hb hby d23_7)
 obtain ⟨T80, X80, e80, st80⟩ := getF X79 hx hZ hown (host := "") (Or.inl (wd hw 93 rfl)) Via.refl e79 Fbc (g := (mkF m 12 (la5 a1 (0 : Int32) x1) [(.ref a1), (.int 0), (.ref d1), (.ref x1)])) rfl rfl (hb hby d23_12)
 -- pc 15: String.getBytes by rm_gb_2_0_16
 obtain ⟨cq81, kq81, q81a, q81b, q81c⟩ := isOf hZ e80 Esx1
 obtain ⟨_, _, ⟨T81, L81, k81, n81⟩, -, X81, ⟨Lc81, hQ81, l81, y81, z81⟩, st81⟩ := X80.virtualBack hx (y := (⟨kS1, "getBytes", "([BIB)V"⟩ : MethodName)) (z := (⟨kS1, "getBytes", "([BIB)V"⟩ : MethodName)) hown (mvT hZ (wd hw 133 rfl)) (mvT hZ (wd hw 134 rfl)) (notFace_of_selects (args := #[]) (mvT hZ (wd hw 136 rfl))) (mvT hZ (wd hw 136 rfl)) (mvT hZ (wd hw 135 rfl)) (by decide) (backOf (W := 0) (rm_gb_2_0_16 l Z a0 hw [] x1 t1 k1 xs0 xs1 d1 kd z0 h0 n0 Z0 O0 Esx1 Fcx1 Fvx1 Vsx1 Vb (by first | assumption | decide | omega) (by first | assumption | decide | omega) (by first | assumption | decide | omega) ned) hZ (wd hw 137 rfl) (wd hw 2 rfl) (by decide) (by decide)) q81a q81c (g := (mkF m 15 (la5 a1 (0 : Int32) x1) [(.int 0), (.int 0), (.ref d1), (.ref x1)])) rfl (by rw [hml]; rfl) (Steps.refl _) (argsL := [(.ref d1), (.int 0), (.int 0)]) (rest := []) (lenOf pd_9 rfl) rfl (wz rfl) (hb hby d23_15) (fun _ _ => ⟨rfl, e80, (by decide : 0 + 0 ≤ _), (by decide : 0 + 0 ≤ _)⟩)
 dsimp only [Pt.U, Pt.locs, Pt.cells, Pt.slots] at X81 l81 y81 z81 st81 hQ81
 rw [l81, y81, z81] at X81
 obtain ⟨h81, e81⟩ : ∃ z, T81.heap = z := ⟨_, rfl⟩
 rw [e81] at hQ81
 obtain ⟨rfl, N81q, K81, p81_0⟩ := hQ81
 have N81 := Fr.app N78 N81q
 have sz81 : h0.size ≤ h81.size := K81.1
 have nz81 := Nat.le_trans Z0 sz81
 have lt81_0 := ltA p81_0.lt
 obtain ⟨fs, hr, hrun, hended, hW, hsame⟩ := X81.leave (v := none) (fun _ => rfl)
 refine ⟨_, _, pre0 _ ?_, hrun, hended, _, _, rfl, ?_, ⟨_, rfl⟩, hW, hsame.mono (by decide) (by decide)⟩
 ·show GO p e below s₁ (mkF m 0 (la5 a1 (0 : Int32) x1) []) _
  refine XS.aloadN X0.here hx rfl (hb hby d23_0) rfl rfl ?_
  show GO p e below s₁ (mkF m 1 (la5 a1 (0 : Int32) x1) [(.ref a1)]) _
  refine XS.aloadN X0.here hx rfl (hb hby d23_1) rfl rfl ?_
  show GO p e below s₁ (mkF m 2 (la5 a1 (0 : Int32) x1) [(.ref x1), (.ref a1)]) _
  refine st78.trans ?_
  show GO p e below T78 (mkF m 5 (la5 a1 (0 : Int32) x1) []) _
  refine XS.aloadN X78.here hx rfl (hb hby d23_5) rfl rfl ?_
  show GO p e below T78 (mkF m 6 (la5 a1 (0 : Int32) x1) [(.ref x1)]) _
  refine XS.aloadN X78.here hx rfl (hb hby d23_6) rfl rfl ?_
  show GO p e below T78 (mkF m 7 (la5 a1 (0 : Int32) x1) [(.ref a1), (.ref x1)]) _
  refine st79 _ ?_
  show GO p e below T79 (mkF m 10 (la5 a1 (0 : Int32) x1) [(.ref d1), (.ref x1)]) _
  refine XS.iloadN X79.here hx rfl (hb hby d23_10) rfl ?_
  show GO p e below T79 (mkF m 11 (la5 a1 (0 : Int32) x1) [(.int 0), (.ref d1), (.ref x1)]) _
  refine XS.aloadN X79.here hx rfl (hb hby d23_11) rfl rfl ?_
  show GO p e below T79 (mkF m 12 (la5 a1 (0 : Int32) x1) [(.ref a1), (.int 0), (.ref d1), (.ref x1)]) _
  refine st80 _ ?_
  show GO p e below T80 (mkF m 15 (la5 a1 (0 : Int32) x1) [(.int 0), (.int 0), (.ref d1), (.ref x1)]) _
  refine st81.trans ?_
  show GO p e below T81 (mkF m 18 (la5 a1 (0 : Int32) x1) []) _
  exact X81.returnOut hx Bd.returns (hb hby d23_18) hr
 ·show Qrm_ps_2_0_16 Z x1 t1 k1 xs0 xs1 a1 d1 kd z0 h0 n0 _ T81.heap _
  rw [e81]
  exact ⟨rfl, N81, ((Keep.refl h0 [d1]).trans K81 (allS (P := fun x => x ∈ _ ∨ _) (Or.inl (List.mem_of_getElem? (i := 0) rfl)) all0)), p81_0⟩
def Qrm_aa_2_0_16 (Z : State) (x1 : Addr) (t1 : Addr) (k1 : ClassId) (xs0 : Int32) (xs1 : Int32) (a1 : Addr) (d1 : Addr) (kd : ClassId) (z0 : Int32) (h0 : Heap) (n0 : Nat) (v : Option Value) (h : Heap) (L : List Loc) : Prop := v = some (.ref a1) ∧ Fr n0 L ∧ Keep h0 h [a1, d1] ∧ Exa Z h a1 kS2 ∧ Fld Z h a1 kS0 "value" "[B" (.ref d1) ∧ Fld Z h a1 kS0 "coder" "B" (.int 0) ∧ Fld Z h a1 kS0 "count" "I" (.int 2) ∧ Arv Z h d1 kd .byte (16 : Int32) [(.int xs0), (.int xs1), (.int 0), (.int 0), (.int 0), (.int 0), (.int 0), (.int 0), (.int 0), (.int 0), (.int 0), (.int 0), (.int 0), (.int 0), (.int 0), (.int 0)] (.int 0)
theorem ef_rm_aa_2_0_16 (m : MethodId) (x0 : Addr) (x1 : Addr) : entryFrame m #[(.ref x0), (.ref x1)] 3 = mkF m 0 (la6 x0 x1) [] := by first | rfl | (simp [entryFrame, mkF, argsToLocals, Value.category]; done)
theorem rm_aa_2_0_16 (l : Launch) (Z : State) (a0 : Array Value) (hw : HW Z a0) (ws : List Jvm.Cond) (x1 : Addr) (t1 : Addr) (k1 : ClassId) (xs0 : Int32) (xs1 : Int32) (a1 : Addr) (d1 : Addr) (kd : ClassId) (z0 : Int32) (h0 : Heap) (n0 : Nat) (Z0 : n0 ≤ h0.size) (O0 : Old Z n0 h0) (Esx1 : Exa Z h0 x1 kS1) (Fcx1 : Fld Z h0 x1 kS1 "coder" "B" (.int 0)) (Fvx1 : Fld Z h0 x1 kS1 "value" "[B" (.ref t1)) (Vsx1 : Arv Z h0 t1 k1 .byte (2 : Int32) [(.int xs0), (.int xs1)] (.int 0)) (Eb : Exa Z h0 a1 kS2) (Fbv : Fld Z h0 a1 kS0 "value" "[B" (.ref d1)) (Fbc : Fld Z h0 a1 kS0 "coder" "B" (.int 0)) (Fbn : Fld Z h0 a1 kS0 "count" "I" (.int 0)) (Vb : Arv Z h0 d1 kd .byte (16 : Int32) [(.int 0), (.int 0), (.int 0), (.int 0), (.int 0), (.int 0), (.int 0), (.int 0), (.int 0), (.int 0), (.int 0), (.int 0), (.int 0), (.int 0), (.int 0), (.int 0)] (.int 0)) (SZc : Sta Z Z.heap kS1 "COMPACT_STRINGS" "Z" (.int z0)) (hz0 : ¬ z0 = 0) (ga : n0 ≤ a1) (gd : n0 ≤ d1) (ned : t1 ≠ d1) :
  OwnM l Z h0 (⟨kS0, "append", "(Ljava/lang/String;)Ljava/lang/AbstractStringBuilder;"⟩ : MethodName) (Jvm.Cond.code (⟨kS0, "append", "(Ljava/lang/String;)Ljava/lang/AbstractStringBuilder;"⟩ : MethodName) jdk_68_method_22_code 3 (some (.object kS0)) :: ws) (RM 3 0 0 47) #[(.ref a1), (.ref x1)] (Qrm_aa_2_0_16 Z x1 t1 k1 xs0 xs1 a1 d1 kd z0 h0 n0) := by
 refine MetFree.of_bodySF (plainFor_of_name pn_6) hisR ?_
 intro p e s m args below meth c s₁ Bd hml0 hP hK
 obtain ⟨rfl, hZ, hh⟩ := hP
 have hx := Bd.exec
 have hby := Bd.bytes
 have hml : c.maxLocals = 3 := hml0
 have hown : s.vm.findClass kS0 = some m.cls := findClass_of_methodNamed Bd.named
 have hnm := (name_of_methodNamed Bd.named Bd.method).1
 have X0 : Stand p l e (RM 3 0 0 47) s m #[(.ref a1), (.ref x1)] below meth c s₁ [] 0 0 := Stand.of_body Bd
 have e0 : s₁.heap = h0 := by rw [← hh, Bd.state]; rfl
 have N0 := Fr.nil n0
 have pre0 : ∀ t, GO p e below s₁ (mkF m 0 (la6 a1 x1) []) t → GO p e below s₁ (entryFrame m #[(.ref a1), (.ref x1)] 3) t := fun t k => castTop (ef_rm_aa_2_0_16 m a1 x1) k
 have lt_Esx1 := ltA Esx1.lt
 have lt_Fcx1 := ltA Fcx1.lt
 have lt_Fvx1 := ltA Fvx1.lt
 have lt_Vsx1 := ltA Vsx1.lt
 have lt_Eb := ltA Eb.lt
 have lt_Fbv := ltA Fbv.lt
 have lt_Fbc := ltA Fbc.lt
 have lt_Fbn := ltA Fbn.lt
 have lt_Vb := ltA Vb.lt
 -- pc 10: String.length by rm_sl2
 obtain ⟨cq82, kq82, q82a, q82b, q82c⟩ := isOf hZ e0 Esx1
 obtain ⟨_, _, ⟨T82, L82, k82, n82⟩, -, X82, ⟨Lc82, hQ82, l82, y82, z82⟩, st82⟩ := X0.virtualBack hx (y := (⟨kS1, "length", "()I"⟩ : MethodName)) (z := (⟨kS1, "length", "()I"⟩ : MethodName)) hown (mvT hZ (wd hw 105 rfl)) (mvT hZ (wd hw 106 rfl)) (notFace_of_selects (args := #[]) (mvT hZ (wd hw 108 rfl))) (mvT hZ (wd hw 108 rfl)) (mvT hZ (wd hw 107 rfl)) (by decide) (backOf (W := 0) (rm_sl2 l Z a0 hw [] x1 t1 k1 xs0 xs1 z0 h0 n0 Z0 O0 Esx1 Fcx1 Fvx1 Vsx1 (by first | assumption | decide | omega) (by first | assumption | decide | omega)) hZ (wd hw 109 rfl) (wd hw 2 rfl) (by decide) (by decide)) q82a q82c (g := (mkF m 10 (la6 a1 x1) [(.ref x1)])) rfl (by rw [hml]; rfl) (Steps.refl _) (argsL := []) (rest := []) (lenOf pd_10 rfl) rfl (wz rfl) (hb hby d19_10) (fun _ _ => ⟨rfl, e0, (by decide : 0 + 0 ≤ _), (by decide : 0 + 0 ≤ _)⟩)
 dsimp only [Pt.U, Pt.locs, Pt.cells, Pt.slots] at X82 l82 y82 z82 st82 hQ82
 rw [l82, y82, z82] at X82
 obtain ⟨rfl, N82q, e82⟩ := hQ82
 have N82 := Fr.app N0 N82q
 obtain ⟨T83, X83, e83, st83⟩ := getF X82 hx hZ hown (host := "") (Or.inl (wd hw 115 rfl)) Via.refl e82 Fbn (g := (mkF m 16 (la0 a1 x1 (2 : Int32)) [(.ref a1), (.ref a1)])) rfl rfl (hb hby d19_16)
 -- pc 21: AbstractStringBuilder.ensureCapacityInternal by rm_en_16
 obtain ⟨cq84, q84a, q84b⟩ := Eb.cell
 obtain ⟨_, _, ⟨T84, L84, k84, n84⟩, -, X84, ⟨Lc84, hQ84, l84, y84, z84⟩, st84⟩ := X83.privateBack hx (y := (⟨kS0, "ensureCapacityInternal", "(I)V"⟩ : MethodName)) hown (mvT hZ (wd hw 117 rfl)) (mvT hZ (wd hw 118 rfl)) (mvT hZ (own_selfsel (wd hw 120 rfl) (wd hw 119 rfl) (wd hw 118 rfl) (by decide))) (Cond.privateMethod_at (mvP hZ (wd hw 119 rfl) (args := #[]))) (mvT hZ (wd hw 121 rfl)) (by decide) (backOf (W := 0) (rm_en_16 l Z a0 hw [] a1 d1 kd ([(.int 0), (.int 0), (.int 0), (.int 0), (.int 0), (.int 0), (.int 0), (.int 0), (.int 0), (.int 0), (.int 0), (.int 0), (.int 0), (.int 0), (.int 0), (.int 0)]) (2 : Int32) h0 n0 Z0 Fbv Fbc Vb (by decide)) hZ (wd hw 121 rfl) (wd hw 87 rfl) (by decide) (by decide)) (g := (mkF m 21 (la0 a1 x1 (2 : Int32)) [(.int 2), (.ref a1)])) rfl (by rw [hml]; rfl) (Steps.refl _) (a := a1) (by rw [e83]; exact q84a) q84b (argsL := [(.int 2)]) (rest := []) (lenOf pd_6 rfl) rfl (wz rfl) (hb hby d19_21) (fun _ _ => ⟨rfl, e83, (by decide : 0 + 0 ≤ _), (by decide : 0 + 0 ≤ _)⟩)
 dsimp only [Pt.U, Pt.locs, Pt.cells, Pt.slots] at X84 l84 y84 z84 st84 hQ84
 rw [l84, y84, z84] at X84
 obtain ⟨rfl, N84q, e84⟩ := hQ84
 have N84 := Fr.app N82 N84q
 obtain ⟨T85, X85, e85, st85⟩ := getF X84 hx hZ hown (host := "") (Or.inl (wd hw 115 rfl)) Via.refl e84 Fbn (g := (mkF m 26 (la0 a1 x1 (2 : Int32)) [(.ref a1), (.ref a1)])) rfl rfl (hb hby d19_26)
 -- pc 30: AbstractStringBuilder.putStringAt by rm_ps_2_0_16
 obtain ⟨cq86, q86a, q86b⟩ := Eb.cell
 obtain ⟨_, _, ⟨T86, L86, k86, n86⟩, -, X86, ⟨Lc86, hQ86, l86, y86, z86⟩, st86⟩ := X85.privateBack hx (y := (⟨kS0, "putStringAt", "(ILjava/lang/String;)V"⟩ : MethodName)) hown (mvT hZ (wd hw 122 rfl)) (mvT hZ (wd hw 123 rfl)) (mvT hZ (own_selfsel (wd hw 125 rfl) (wd hw 124 rfl) (wd hw 123 rfl) (by decide))) (Cond.privateMethod_at (mvP hZ (wd hw 124 rfl) (args := #[]))) (mvT hZ (wd hw 126 rfl)) (by decide) (backOf (W := 0) (rm_ps_2_0_16 l Z a0 hw [] x1 t1 k1 xs0 xs1 a1 d1 kd z0 h0 n0 Z0 O0 Esx1 Fcx1 Fvx1 Vsx1 Eb Fbv Fbc Fbn Vb (by first | assumption | decide | omega) (by first | assumption | decide | omega) (by first | assumption | decide | omega) ned) hZ (wd hw 126 rfl) (wd hw 87 rfl) (by decide) (by decide)) (g := (mkF m 30 (la0 a1 x1 (2 : Int32)) [(.ref x1), (.int 0), (.ref a1)])) rfl (by rw [hml]; rfl) (Steps.refl _) (a := a1) (by rw [e85]; exact q86a) q86b (argsL := [(.int 0), (.ref x1)]) (rest := []) (lenOf pd_11 rfl) rfl (wz rfl) (hb hby d19_30) (fun _ _ => ⟨rfl, e85, (by decide : 0 + 0 ≤ _), (by decide : 0 + 0 ≤ _)⟩)
 dsimp only [Pt.U, Pt.locs, Pt.cells, Pt.slots] at X86 l86 y86 z86 st86 hQ86
 rw [l86, y86, z86] at X86
 obtain ⟨h86, e86⟩ : ∃ z, T86.heap = z := ⟨_, rfl⟩
 rw [e86] at hQ86
 obtain ⟨rfl, N86q, K86, p86_0⟩ := hQ86
 have N86 := Fr.app N84 N86q
 have ne87 : d1 ≠ x1 := Ne.symm (Exa.neArv Esx1 Vb (wd hw 1 rfl))
 have ne88 : d1 ≠ a1 := Ne.symm (Exa.neArv Eb Vb (wd hw 78 rfl))
 have sz86 : h0.size ≤ h86.size := K86.1
 have nz86 := Nat.le_trans Z0 sz86
 have lt86_0 := ltA p86_0.lt
 have f89 : Fld Z h86 a1 kS0 "count" "I" (.int 0) := (Fbn.keep K86 (ninS (Ne.symm ne88) nin0))
 obtain ⟨T90, X90, e90, st90⟩ := getF X86 hx hZ hown (host := "") (Or.inl (wd hw 115 rfl)) Via.refl e86 f89 (g := (mkF m 35 (la0 a1 x1 (2 : Int32)) [(.ref a1), (.ref a1)])) rfl rfl (hb hby d19_35)
 have f91 : Exa Z h86 a1 kS2 := (Eb.keep K86)
 obtain ⟨T92, h92, X92, e92, W92, st92⟩ := putF X90 hx hZ hown (host := "") (Or.inl (wd hw 115 rfl)) Via.refl e90 f89 f91 (Or.inl (wd hw 116 rfl)) (wd hw 78 rfl) (ty := .int) (by decide) rfl rfl (g := (mkF m 40 (la0 a1 x1 (2 : Int32)) [(.int 2), (.ref a1)])) rfl rfl (hb hby d19_40)
 have ge93 : n0 ≤ a1 := by omega
 have N92 := Fr.snoc X92 N86 ge93
 have f94 : Exa Z h86 x1 kS1 := (Esx1.keep K86)
 have ne95 : a1 ≠ x1 := ne_exa f91 f94 (by decide)
 have f96 : Arv Z h86 t1 k1 .byte (2 : Int32) [(.int xs0), (.int xs1)] (.int 0) := (Vsx1.keep K86 (ninS ned nin0))
 have ne97 : a1 ≠ t1 := Exa.neArv f91 f96 (wd hw 78 rfl)
 have sz92 : h86.size ≤ h92.size := Nat.le_of_eq W92.size.symm
 have nz92 := Nat.le_trans nz86 sz92
 have f92 : Fld Z h92 a1 kS0 "count" "I" (.int 2) := f89.same W92
 have f98 : Exa Z h92 a1 kS2 := (f91.wr W92)
 have f99 : Fld Z h92 a1 kS0 "value" "[B" (.ref d1) := ((Fbv.keep K86 (ninS (Ne.symm ne88) nin0)).other W92 (Or.inr (slot_ne (Or.inl (wd hw 92 rfl)) (Or.inl (wd hw 116 rfl)) (by decide) (t := (.array .byte)) (t' := .int) (by decide) (by decide))))
 have f100 : Fld Z h92 a1 kS0 "coder" "B" (.int 0) := ((Fbc.keep K86 (ninS (Ne.symm ne88) nin0)).other W92 (Or.inr (slot_ne (Or.inl (wd hw 94 rfl)) (Or.inl (wd hw 116 rfl)) (by decide) (t := .byte) (t' := .int) (by decide) (by decide))))
 have f101 : Arv Z h92 d1 kd .byte (16 : Int32) [(.int xs0), (.int xs1), (.int 0), (.int 0), (.int 0), (.int 0), (.int 0), (.int 0), (.int 0), (.int 0), (.int 0), (.int 0), (.int 0), (.int 0), (.int 0), (.int 0)] (.int 0) := (p86_0.other W92 ne88)
 obtain ⟨fs, hr, hrun, hended, hW, hsame⟩ := X92.leave (v := some (.ref a1)) (fun h => by rw [Bd.returns] at h; cases h)
 refine ⟨_, _, pre0 _ ?_, hrun, hended, _, _, rfl, ?_, ⟨_, rfl⟩, hW, hsame.mono (by decide) (by decide)⟩
 ·show GO p e below s₁ (mkF m 0 (la6 a1 x1) []) _
  refine XS.aloadN X0.here hx rfl (hb hby d19_0) rfl rfl ?_
  show GO p e below s₁ (mkF m 1 (la6 a1 x1) [(.ref x1)]) _
  refine XS.ifnonnullYes X0.here hx rfl (pc0 := 1) (pc' := 9) rfl (hb hby d19_1) rfl (by decide) (by decide) ?_
  show GO p e below s₁ (mkF m 9 (la6 a1 x1) []) _
  refine XS.aloadN X0.here hx rfl (hb hby d19_9) rfl rfl ?_
  show GO p e below s₁ (mkF m 10 (la6 a1 x1) [(.ref x1)]) _
  refine st82.trans ?_
  show GO p e below T82 (mkF m 13 (la6 a1 x1) [(.int 2)]) _
  refine XS.istoreN X82.here hx rfl (hb hby d19_13) rfl (l' := (la0 a1 x1 (2 : Int32))) rfl ?_
  show GO p e below T82 (mkF m 14 (la0 a1 x1 (2 : Int32)) []) _
  refine XS.aloadN X82.here hx rfl (hb hby d19_14) rfl rfl ?_
  show GO p e below T82 (mkF m 15 (la0 a1 x1 (2 : Int32)) [(.ref a1)]) _
  refine XS.aloadN X82.here hx rfl (hb hby d19_15) rfl rfl ?_
  show GO p e below T82 (mkF m 16 (la0 a1 x1 (2 : Int32)) [(.ref a1), (.ref a1)]) _
  refine st83 _ ?_
  show GO p e below T83 (mkF m 19 (la0 a1 x1 (2 : Int32)) [(.int 0), (.ref a1)]) _
  refine XS.iloadN X83.here hx rfl (hb hby d19_19) rfl ?_
  show GO p e below T83 (mkF m 20 (la0 a1 x1 (2 : Int32)) [(.int 2), (.int 0), (.ref a1)]) _
  refine XS.iadd X83.here hx rfl (hb hby d19_20) rfl ?_
  rw [show ((0 : Int32) + (2 : Int32)) = (2 : Int32) from by decide]
  show GO p e below T83 (mkF m 21 (la0 a1 x1 (2 : Int32)) [(.int 2), (.ref a1)]) _
  refine st84.trans ?_
  show GO p e below T84 (mkF m 24 (la0 a1 x1 (2 : Int32)) []) _
  refine XS.aloadN X84.here hx rfl (hb hby d19_24) rfl rfl ?_
  show GO p e below T84 (mkF m 25 (la0 a1 x1 (2 : Int32)) [(.ref a1)]) _
  refine XS.aloadN X84.here hx rfl (hb hby d19_25) rfl rfl ?_
  show GO p e below T84 (mkF m 26 (la0 a1 x1 (2 : Int32)) [(.ref a1), (.ref a1)]) _
  refine st85 _ ?_
  show GO p e below T85 (mkF m 29 (la0 a1 x1 (2 : Int32)) [(.int 0), (.ref a1)]) _
  refine XS.aloadN X85.here hx rfl (hb hby d19_29) rfl rfl ?_
  show GO p e below T85 (mkF m 30 (la0 a1 x1 (2 : Int32)) [(.ref x1), (.int 0), (.ref a1)]) _
  refine st86.trans ?_
  show GO p e below T86 (mkF m 33 (la0 a1 x1 (2 : Int32)) []) _
  refine XS.aloadN X86.here hx rfl (hb hby d19_33) rfl rfl ?_
  show GO p e below T86 (mkF m 34 (la0 a1 x1 (2 : Int32)) [(.ref a1)]) _
  refine XS.dup X86.here hx rfl (hb hby d19_34) rfl rfl ?_
  show GO p e below T86 (mkF m 35 (la0 a1 x1 (2 : Int32)) [(.ref a1), (.ref a1)]) _
  refine st90 _ ?_
  show GO p e below T90 (mkF m 38 (la0 a1 x1 (2 : Int32)) [(.int 0), (.ref a1)]) _
  refine XS.iloadN X90.here hx rfl (hb hby d19_38) rfl ?_
  show GO p e below T90 (mkF m 39 (la0 a1 x1 (2 : Int32)) [(.int 2), (.int 0), (.ref a1)]) _
  refine XS.iadd X90.here hx rfl (hb hby d19_39) rfl ?_
  rw [show ((0 : Int32) + (2 : Int32)) = (2 : Int32) from by decide]
  show GO p e below T90 (mkF m 40 (la0 a1 x1 (2 : Int32)) [(.int 2), (.ref a1)]) _
  refine st92 _ ?_
  show GO p e below T92 (mkF m 43 (la0 a1 x1 (2 : Int32)) []) _
  refine XS.aloadN X92.here hx rfl (hb hby d19_43) rfl rfl ?_
  show GO p e below T92 (mkF m 44 (la0 a1 x1 (2 : Int32)) [(.ref a1)]) _
  exact retOut X92 hx Bd.returns rfl (Or.inr (Or.inr (Or.inr (Or.inr ⟨rfl, rfl, rfl⟩)))) (hb hby d19_44) hr
 ·show Qrm_aa_2_0_16 Z x1 t1 k1 xs0 xs1 a1 d1 kd z0 h0 n0 _ T92.heap _
  rw [e92]
  exact ⟨rfl, N92, (((Keep.refl h0 [a1, d1]).trans K86 (allS (P := fun x => x ∈ _ ∨ _) (Or.inl (List.mem_of_getElem? (i := 1) rfl)) all0)).wr W92 (Or.inl (List.mem_of_getElem? (i := 0) rfl))), f98, f99, f100, f92, f101⟩
def Qrm_sa_2_0_16 (Z : State) (x1 : Addr) (t1 : Addr) (k1 : ClassId) (xs0 : Int32) (xs1 : Int32) (a1 : Addr) (d1 : Addr) (kd : ClassId) (z0 : Int32) (h0 : Heap) (n0 : Nat) (v : Option Value) (h : Heap) (L : List Loc) : Prop := v = some (.ref a1) ∧ Fr n0 L ∧ Keep h0 h [a1, d1] ∧ Exa Z h a1 kS2 ∧ Fld Z h a1 kS0 "value" "[B" (.ref d1) ∧ Fld Z h a1 kS0 "coder" "B" (.int 0) ∧ Fld Z h a1 kS0 "count" "I" (.int 2) ∧ Arv Z h d1 kd .byte (16 : Int32) [(.int xs0), (.int xs1), (.int 0), (.int 0), (.int 0), (.int 0), (.int 0), (.int 0), (.int 0), (.int 0), (.int 0), (.int 0), (.int 0), (.int 0), (.int 0), (.int 0)] (.int 0)
theorem ef_rm_sa_2_0_16 (m : MethodId) (x0 : Addr) (x1 : Addr) : entryFrame m #[(.ref x0), (.ref x1)] 2 = mkF m 0 #[.val (.ref x0), .val (.ref x1)] [] := by first | rfl | (simp [entryFrame, mkF, argsToLocals, Value.category]; done)
theorem rm_sa_2_0_16 (l : Launch) (Z : State) (a0 : Array Value) (hw : HW Z a0) (ws : List Jvm.Cond) (x1 : Addr) (t1 : Addr) (k1 : ClassId) (xs0 : Int32) (xs1 : Int32) (a1 : Addr) (d1 : Addr) (kd : ClassId) (z0 : Int32) (h0 : Heap) (n0 : Nat) (Z0 : n0 ≤ h0.size) (O0 : Old Z n0 h0) (Esx1 : Exa Z h0 x1 kS1) (Fcx1 : Fld Z h0 x1 kS1 "coder" "B" (.int 0)) (Fvx1 : Fld Z h0 x1 kS1 "value" "[B" (.ref t1)) (Vsx1 : Arv Z h0 t1 k1 .byte (2 : Int32) [(.int xs0), (.int xs1)] (.int 0)) (Eb : Exa Z h0 a1 kS2) (Fbv : Fld Z h0 a1 kS0 "value" "[B" (.ref d1)) (Fbc : Fld Z h0 a1 kS0 "coder" "B" (.int 0)) (Fbn : Fld Z h0 a1 kS0 "count" "I" (.int 0)) (Vb : Arv Z h0 d1 kd .byte (16 : Int32) [(.int 0), (.int 0), (.int 0), (.int 0), (.int 0), (.int 0), (.int 0), (.int 0), (.int 0), (.int 0), (.int 0), (.int 0), (.int 0), (.int 0), (.int 0), (.int 0)] (.int 0)) (SZc : Sta Z Z.heap kS1 "COMPACT_STRINGS" "Z" (.int z0)) (hz0 : ¬ z0 = 0) (ga : n0 ≤ a1) (gd : n0 ≤ d1) (ned : t1 ≠ d1) :
  OwnM l Z h0 (⟨kS2, "append", "(Ljava/lang/String;)Ljava/lang/StringBuilder;"⟩ : MethodName) (Jvm.Cond.code (⟨kS2, "append", "(Ljava/lang/String;)Ljava/lang/StringBuilder;"⟩ : MethodName) jdk_67_method_7_code 2 (some (.object kS2)) :: ws) (RM 4 0 0 61) #[(.ref a1), (.ref x1)] (Qrm_sa_2_0_16 Z x1 t1 k1 xs0 xs1 a1 d1 kd z0 h0 n0) := by
 refine MetFree.of_bodySF (plainFor_of_name pn_7) hisR ?_
 intro p e s m args below meth c s₁ Bd hml0 hP hK
 obtain ⟨rfl, hZ, hh⟩ := hP
 have hx := Bd.exec
 have hby := Bd.bytes
 have hml : c.maxLocals = 2 := hml0
 have hown : s.vm.findClass kS2 = some m.cls := findClass_of_methodNamed Bd.named
 have hnm := (name_of_methodNamed Bd.named Bd.method).1
 have X0 : Stand p l e (RM 4 0 0 61) s m #[(.ref a1), (.ref x1)] below meth c s₁ [] 0 0 := Stand.of_body Bd
 have e0 : s₁.heap = h0 := by rw [← hh, Bd.state]; rfl
 have N0 := Fr.nil n0
 have pre0 : ∀ t, GO p e below s₁ (mkF m 0 #[.val (.ref a1), .val (.ref x1)] []) t → GO p e below s₁ (entryFrame m #[(.ref a1), (.ref x1)] 2) t := fun t k => castTop (ef_rm_sa_2_0_16 m a1 x1) k
 have lt_Esx1 := ltA Esx1.lt
 have lt_Fcx1 := ltA Fcx1.lt
 have lt_Fvx1 := ltA Fvx1.lt
 have lt_Vsx1 := ltA Vsx1.lt
 have lt_Eb := ltA Eb.lt
 have lt_Fbv := ltA Fbv.lt
 have lt_Fbc := ltA Fbc.lt
 have lt_Fbn := ltA Fbn.lt
 have lt_Vb := ltA Vb.lt
 -- pc 2: AbstractStringBuilder.append by rm_aa_2_0_16
 obtain ⟨_, _, ⟨T102, L102, k102, n102⟩, -, X102, ⟨Lc102, hQ102, l102, y102, z102⟩, st102⟩ := superBack X0 hx hZ (y := (⟨kS0, "append", "(Ljava/lang/String;)Ljava/lang/AbstractStringBuilder;"⟩ : MethodName)) hown (wd hw 100 rfl) (own_sameM (y := (⟨kS0, "append", "(Ljava/lang/String;)Ljava/lang/AbstractStringBuilder;"⟩ : MethodName)) (wd hw 101 rfl) (wd hw 120 rfl) rfl (by decide)) (wd hw 101 rfl) (wd hw 102 rfl) (by decide) (backOf (W := 0) (rm_aa_2_0_16 l Z a0 hw [] x1 t1 k1 xs0 xs1 a1 d1 kd z0 h0 n0 Z0 O0 Esx1 Fcx1 Fvx1 Vsx1 Eb Fbv Fbc Fbn Vb (by first | assumption | decide | omega) (by first | assumption | decide | omega) (by first | assumption | decide | omega) (by first | assumption | decide | omega) ned) hZ (wd hw 104 rfl) (wd hw 87 rfl) (by decide) (by decide)) e0 (Ins.self Eb) (g := (mkF m 2 #[.val (.ref a1), .val (.ref x1)] [(.ref x1), (.ref a1)])) rfl (by rw [hml]; rfl) (wd hw 104 rfl) (argsL := [(.ref x1)]) (rest := []) (lenOf pd_12 rfl) rfl (wz rfl) (hb hby d18_2) (fun _ _ => ⟨rfl, e0, (by decide : 0 + 0 ≤ _), (by decide : 0 + 0 ≤ _)⟩)
 dsimp only [Pt.U, Pt.locs, Pt.cells, Pt.slots] at X102 l102 y102 z102 st102 hQ102
 rw [l102, y102, z102] at X102
 obtain ⟨h102, e102⟩ : ∃ z, T102.heap = z := ⟨_, rfl⟩
 rw [e102] at hQ102
 obtain ⟨rfl, N102q, K102, p102_0, p102_1, p102_2, p102_3, p102_4⟩ := hQ102
 have N102 := Fr.app N0 N102q
 have ne103 : a1 ≠ x1 := ne_exa Eb Esx1 (by decide)
 have ne104 : a1 ≠ d1 := Exa.neArv Eb Vb (wd hw 78 rfl)
 have ne105 : a1 ≠ t1 := Exa.neArv Eb Vsx1 (wd hw 78 rfl)
 have ne106 : d1 ≠ x1 := Ne.symm (Exa.neArv Esx1 Vb (wd hw 1 rfl))
 have sz102 : h0.size ≤ h102.size := K102.1
 have nz102 := Nat.le_trans Z0 sz102
 have lt102_0 := ltA p102_0.lt
 have lt102_4 := ltA p102_4.lt
 obtain ⟨fs, hr, hrun, hended, hW, hsame⟩ := X102.leave (v := some (.ref a1)) (fun h => by rw [Bd.returns] at h; cases h)
 refine ⟨_, _, pre0 _ ?_, hrun, hended, _, _, rfl, ?_, ⟨_, rfl⟩, hW, hsame.mono (by decide) (by decide)⟩
 ·show GO p e below s₁ (mkF m 0 #[.val (.ref a1), .val (.ref x1)] []) _
  refine XS.aloadN X0.here hx rfl (hb hby d18_0) rfl rfl ?_
  show GO p e below s₁ (mkF m 1 #[.val (.ref a1), .val (.ref x1)] [(.ref a1)]) _
  refine XS.aloadN X0.here hx rfl (hb hby d18_1) rfl rfl ?_
  show GO p e below s₁ (mkF m 2 #[.val (.ref a1), .val (.ref x1)] [(.ref x1), (.ref a1)]) _
  refine st102.trans ?_
  show GO p e below T102 (mkF m 5 #[.val (.ref a1), .val (.ref x1)] [(.ref a1)]) _
  refine XS.pop X102.here hx rfl (hb hby d18_5) rfl rfl ?_
  show GO p e below T102 (mkF m 6 #[.val (.ref a1), .val (.ref x1)] []) _
  refine XS.aloadN X102.here hx rfl (hb hby d18_6) rfl rfl ?_
  show GO p e below T102 (mkF m 7 #[.val (.ref a1), .val (.ref x1)] [(.ref a1)]) _
  exact retOut X102 hx Bd.returns rfl (Or.inr (Or.inr (Or.inr (Or.inr ⟨rfl, rfl, rfl⟩)))) (hb hby d18_7) hr
 ·show Qrm_sa_2_0_16 Z x1 t1 k1 xs0 xs1 a1 d1 kd z0 h0 n0 _ T102.heap _
  rw [e102]
  exact ⟨rfl, N102, ((Keep.refl h0 [a1, d1]).trans K102 (allS (P := fun x => x ∈ _ ∨ _) (Or.inl (List.mem_of_getElem? (i := 0) rfl)) (allS (P := fun x => x ∈ _ ∨ _) (Or.inl (List.mem_of_getElem? (i := 1) rfl)) all0))), p102_0, p102_1, p102_2, p102_3, p102_4⟩
def Qrm_sl5 (Z : State) (x1 : Addr) (t1 : Addr) (k1 : ClassId) (xs0 : Int32) (xs1 : Int32) (xs2 : Int32) (xs3 : Int32) (xs4 : Int32) (z0 : Int32) (h0 : Heap) (n0 : Nat) (v : Option Value) (h : Heap) (L : List Loc) : Prop := v = some (.int 5) ∧ Fr n0 L ∧ h = h0
theorem ef_rm_sl5 (m : MethodId) (x0 : Addr) : entryFrame m #[(.ref x0)] 1 = mkF m 0 #[.val (.ref x0)] [] := by first | rfl | (simp [entryFrame, mkF, argsToLocals, Value.category]; done)
theorem rm_sl5 (l : Launch) (Z : State) (a0 : Array Value) (hw : HW Z a0) (ws : List Jvm.Cond) (x1 : Addr) (t1 : Addr) (k1 : ClassId) (xs0 : Int32) (xs1 : Int32) (xs2 : Int32) (xs3 : Int32) (xs4 : Int32) (z0 : Int32) (h0 : Heap) (n0 : Nat) (Z0 : n0 ≤ h0.size) (O0 : Old Z n0 h0) (Esx1 : Exa Z h0 x1 kS1) (Fcx1 : Fld Z h0 x1 kS1 "coder" "B" (.int 0)) (Fvx1 : Fld Z h0 x1 kS1 "value" "[B" (.ref t1)) (Vsx1 : Arv Z h0 t1 k1 .byte (5 : Int32) [(.int xs0), (.int xs1), (.int xs2), (.int xs3), (.int xs4)] (.int 0)) (SZc : Sta Z Z.heap kS1 "COMPACT_STRINGS" "Z" (.int z0)) (hz0 : ¬ z0 = 0) :
  OwnM l Z h0 (⟨kS1, "length", "()I"⟩ : MethodName) (Jvm.Cond.code (⟨kS1, "length", "()I"⟩ : MethodName) jdk_42_method_54_code 1 (some .int) :: ws) (RM 1 0 0 13) #[(.ref x1)] (Qrm_sl5 Z x1 t1 k1 xs0 xs1 xs2 xs3 xs4 z0 h0 n0) := by
 refine MetFree.of_bodySF (plainFor_of_name pn_1) hisR ?_
 intro p e s m args below meth c s₁ Bd hml0 hP hK
 obtain ⟨rfl, hZ, hh⟩ := hP
 have hx := Bd.exec
 have hby := Bd.bytes
 have hml : c.maxLocals = 1 := hml0
 have hown : s.vm.findClass kS1 = some m.cls := findClass_of_methodNamed Bd.named
 have hnm := (name_of_methodNamed Bd.named Bd.method).1
 have X0 : Stand p l e (RM 1 0 0 13) s m #[(.ref x1)] below meth c s₁ [] 0 0 := Stand.of_body Bd
 have e0 : s₁.heap = h0 := by rw [← hh, Bd.state]; rfl
 have N0 := Fr.nil n0
 have pre0 : ∀ t, GO p e below s₁ (mkF m 0 #[.val (.ref x1)] []) t → GO p e below s₁ (entryFrame m #[(.ref x1)] 1) t := fun t k => castTop (ef_rm_sl5 m x1) k
 have lt_Esx1 := ltA Esx1.lt
 have lt_Fcx1 := ltA Fcx1.lt
 have lt_Fvx1 := ltA Fvx1.lt
 have lt_Vsx1 := ltA Vsx1.lt
 obtain ⟨T107, X107, e107, st107⟩ := getF X0 hx hZ hown (host := "") (Or.inl (wd hw 28 rfl)) Via.refl e0 Fvx1 (g := (mkF m 1 #[.val (.ref x1)] [(.ref x1)])) rfl rfl (hb hby d20_1)
 obtain ⟨cl108, Ar108, -, S108, M108, -, -⟩ := id Vsx1
 -- pc 6: String.coder by rm_sc
 obtain ⟨cq109, kq109, q109a, q109b, q109c⟩ := isOf hZ e107 Esx1
 obtain ⟨_, _, ⟨T109, L109, k109, n109⟩, -, X109, ⟨Lc109, hQ109, l109, y109, z109⟩, st109⟩ := X107.virtualBack hx (y := (⟨kS1, "coder", "()B"⟩ : MethodName)) (z := (⟨kS1, "coder", "()B"⟩ : MethodName)) hown (mvT hZ (wd hw 110 rfl)) (mvT hZ (wd hw 111 rfl)) (notFace_of_selects (args := #[]) (mvT hZ (wd hw 113 rfl))) (mvT hZ (wd hw 113 rfl)) (mvT hZ (wd hw 112 rfl)) (by decide) (backOf (W := 1) (rm_sc l Z a0 hw [] x1 z0 h0 n0 Z0 O0 Fcx1 (by first | assumption | decide | omega) (by first | assumption | decide | omega)) hZ (wd hw 114 rfl) (wd hw 2 rfl) (by decide) (by decide)) q109a q109c (g := (mkF m 6 #[.val (.ref x1)] [(.ref x1), (.int 5)])) rfl (by rw [hml]; rfl) (Steps.refl _) (argsL := []) (rest := [(.int 5)]) (lenOf pd_7 rfl) rfl (wz rfl) (hb hby d20_6) (fun _ _ => ⟨rfl, e107, (by decide : 0 + 0 ≤ _), (by decide : 0 + 0 ≤ _)⟩)
 dsimp only [Pt.U, Pt.locs, Pt.cells, Pt.slots] at X109 l109 y109 z109 st109 hQ109
 rw [l109, y109, z109] at X109
 obtain ⟨rfl, N109q, e109⟩ := hQ109
 have N109 := Fr.app N0 N109q
 obtain ⟨fs, hr, hrun, hended, hW, hsame⟩ := X109.leave (v := some (.int 5)) (fun h => by rw [Bd.returns] at h; cases h)
 refine ⟨_, _, pre0 _ ?_, hrun, hended, _, _, rfl, ?_, ⟨_, rfl⟩, hW, hsame.mono (by decide) (by decide)⟩
 ·show GO p e below s₁ (mkF m 0 #[.val (.ref x1)] []) _
  refine XS.aloadN X0.here hx rfl (hb hby d20_0) rfl rfl ?_
  show GO p e below s₁ (mkF m 1 #[.val (.ref x1)] [(.ref x1)]) _
  refine st107 _ ?_
  show GO p e below T107 (mkF m 4 #[.val (.ref x1)] [(.ref t1)]) _
  refine X107.arraylength hx (by rw [e107]; exact Ar108.1) (State.isArrayOf_alike hZ.alike Ar108.2.1) (g := (mkF m 4 #[.val (.ref x1)] [(.ref t1)])) rfl rfl (hb hby d20_4) _ ?_
  rw [len_of S108 M108]
  show GO p e below T107 (mkF m 5 #[.val (.ref x1)] [(.int 5)]) _
  refine XS.aloadN X107.here hx rfl (hb hby d20_5) rfl rfl ?_
  show GO p e below T107 (mkF m 6 #[.val (.ref x1)] [(.ref x1), (.int 5)]) _
  refine st109.trans ?_
  show GO p e below T109 (mkF m 9 #[.val (.ref x1)] [(.int 0), (.int 5)]) _
  refine XS.ishr X109.here hx rfl (hb hby d20_9) rfl ?_
  rw [show ((5 : Int32) >>> ((0 : Int32) &&& 31)) = (5 : Int32) from by decide]
  show GO p e below T109 (mkF m 10 #[.val (.ref x1)] [(.int 5)]) _
  exact retI X109 hx Bd.returns (hb hby d20_10) hr
 ·show Qrm_sl5 Z x1 t1 k1 xs0 xs1 xs2 xs3 xs4 z0 h0 n0 _ T109.heap _
  rw [e109]
  exact ⟨rfl, N109, rfl⟩
def Qrm_gb_5_2_16 (Z : State) (x1 : Addr) (t1 : Addr) (k1 : ClassId) (xs0 : Int32) (xs1 : Int32) (xs2 : Int32) (xs3 : Int32) (xs4 : Int32) (d1 : Addr) (kd : ClassId) (xe0 : Int32) (xe1 : Int32) (z0 : Int32) (h0 : Heap) (n0 : Nat) (v : Option Value) (h : Heap) (L : List Loc) : Prop := v = none ∧ Fr n0 L ∧ Keep h0 h [d1] ∧ Arv Z h d1 kd .byte (16 : Int32) [(.int xe0), (.int xe1), (.int xs0), (.int xs1), (.int xs2), (.int xs3), (.int xs4), (.int 0), (.int 0), (.int 0), (.int 0), (.int 0), (.int 0), (.int 0), (.int 0), (.int 0)] (.int 0)
theorem ef_rm_gb_5_2_16 (m : MethodId) (x0 : Addr) (x1 : Addr) (x2 : Int32) (x3 : Int32) : entryFrame m #[(.ref x0), (.ref x1), (.int x2), (.int x3)] 4 = mkF m 0 (la4 x0 x1 x2 x3) [] := by first | rfl | (simp [entryFrame, mkF, argsToLocals, Value.category]; done)
theorem rm_gb_5_2_16 (l : Launch) (Z : State) (a0 : Array Value) (hw : HW Z a0) (ws : List Jvm.Cond) (x1 : Addr) (t1 : Addr) (k1 : ClassId) (xs0 : Int32) (xs1 : Int32) (xs2 : Int32) (xs3 : Int32) (xs4 : Int32) (d1 : Addr) (kd : ClassId) (xe0 : Int32) (xe1 : Int32) (z0 : Int32) (h0 : Heap) (n0 : Nat) (Z0 : n0 ≤ h0.size) (O0 : Old Z n0 h0) (Esx1 : Exa Z h0 x1 kS1) (Fcx1 : Fld Z h0 x1 kS1 "coder" "B" (.int 0)) (Fvx1 : Fld Z h0 x1 kS1 "value" "[B" (.ref t1)) (Vsx1 : Arv Z h0 t1 k1 .byte (5 : Int32) [(.int xs0), (.int xs1), (.int xs2), (.int xs3), (.int xs4)] (.int 0)) (Vd : Arv Z h0 d1 kd .byte (16 : Int32) [(.int xe0), (.int xe1), (.int 0), (.int 0), (.int 0), (.int 0), (.int 0), (.int 0), (.int 0), (.int 0), (.int 0), (.int 0), (.int 0), (.int 0), (.int 0), (.int 0)] (.int 0)) (SZc : Sta Z Z.heap kS1 "COMPACT_STRINGS" "Z" (.int z0)) (hz0 : ¬ z0 = 0) (gd : n0 ≤ d1) (ned : t1 ≠ d1) :
  OwnM l Z h0 (⟨kS1, "getBytes", "([BIB)V"⟩ : MethodName) (Jvm.Cond.code (⟨kS1, "getBytes", "([BIB)V"⟩ : MethodName) jdk_42_method_147_code 4 none :: ws) (RM 1 0 0 18) #[(.ref x1), (.ref d1), (.int 2), (.int 0)] (Qrm_gb_5_2_16 Z x1 t1 k1 xs0 xs1 xs2 xs3 xs4 d1 kd xe0 xe1 z0 h0 n0) := by
 refine MetFree.of_bodySF (plainFor_of_name pn_1) hisR ?_
 intro p e s m args below meth c s₁ Bd hml0 hP hK
 obtain ⟨rfl, hZ, hh⟩ := hP
 have hx := Bd.exec
 have hby := Bd.bytes
 have hml : c.maxLocals = 4 := hml0
 have hown : s.vm.findClass kS1 = some m.cls := findClass_of_methodNamed Bd.named
 have hnm := (name_of_methodNamed Bd.named Bd.method).1
 have X0 : Stand p l e (RM 1 0 0 18) s m #[(.ref x1), (.ref d1), (.int 2), (.int 0)] below meth c s₁ [] 0 0 := Stand.of_body Bd
 have e0 : s₁.heap = h0 := by rw [← hh, Bd.state]; rfl
 have N0 := Fr.nil n0
 have pre0 : ∀ t, GO p e below s₁ (mkF m 0 (la4 x1 d1 (2 : Int32) (0 : Int32)) []) t → GO p e below s₁ (entryFrame m #[(.ref x1), (.ref d1), (.int 2), (.int 0)] 4) t := fun t k => castTop (ef_rm_gb_5_2_16 m x1 d1 ((2 : Int32)) ((0 : Int32))) k
 have lt_Esx1 := ltA Esx1.lt
 have lt_Fcx1 := ltA Fcx1.lt
 have lt_Fvx1 := ltA Fvx1.lt
 have lt_Vsx1 := ltA Vsx1.lt
 have lt_Vd := ltA Vd.lt
 -- pc 1: String.coder by rm_sc
 obtain ⟨cq110, kq110, q110a, q110b, q110c⟩ := isOf hZ e0 Esx1
 obtain ⟨_, _, ⟨T110, L110, k110, n110⟩, -, X110, ⟨Lc110, hQ110, l110, y110, z110⟩, st110⟩ := X0.virtualBack hx (y := (⟨kS1, "coder", "()B"⟩ : MethodName)) (z := (⟨kS1, "coder", "()B"⟩ : MethodName)) hown (mvT hZ (wd hw 110 rfl)) (mvT hZ (wd hw 111 rfl)) (notFace_of_selects (args := #[]) (mvT hZ (wd hw 113 rfl))) (mvT hZ (wd hw 113 rfl)) (mvT hZ (wd hw 112 rfl)) (by decide) (backOf (W := 0) (rm_sc l Z a0 hw [] x1 z0 h0 n0 Z0 O0 Fcx1 (by first | assumption | decide | omega) (by first | assumption | decide | omega)) hZ (wd hw 114 rfl) (wd hw 2 rfl) (by decide) (by decide)) q110a q110c (g := (mkF m 1 (la4 x1 d1 (2 : Int32) (0 : Int32)) [(.ref x1)])) rfl (by rw [hml]; rfl) (Steps.refl _) (argsL := []) (rest := []) (lenOf pd_7 rfl) rfl (wz rfl) (hb hby d25_1) (fun _ _ => ⟨rfl, e0, (by decide : 0 + 0 ≤ _), (by decide : 0 + 0 ≤ _)⟩)
 dsimp only [Pt.U, Pt.locs, Pt.cells, Pt.slots] at X110 l110 y110 z110 st110 hQ110
 rw [l110, y110, z110] at X110
 obtain ⟨rfl, N110q, e110⟩ := hQ110
 have N110 := Fr.app N0 N110q
 obtain ⟨T111, X111, e111, st111⟩ := getF X110 hx hZ hown (host := "") (Or.inl (wd hw 28 rfl)) Via.refl e110 Fvx1 (g := (mkF m 9 (la4 x1 d1 (2 : Int32) (0 : Int32)) [(.ref x1)])) rfl rfl (hb hby d25_9)
 obtain ⟨T112, X112, e112, st112⟩ := getF X111 hx hZ hown (host := "") (Or.inl (wd hw 28 rfl)) Via.refl e111 Fvx1 (g := (mkF m 18 (la4 x1 d1 (2 : Int32) (0 : Int32)) [(.ref x1), (.int 2), (.ref d1), (.int 0), (.ref t1)])) rfl rfl (hb hby d25_18)
 obtain ⟨cl113, Ar113, -, S113, M113, -, -⟩ := id Vsx1
 obtain ⟨T114, h114, L114, X114, e114, N114, K114, A114, st114⟩ := cpA X112 hx hZ hown (wd hw 138 rfl) (wd hw 141 rfl) (wd hw 139 rfl) (wd hw 140 rfl) e112 Vsx1 Vd (us := [(.int xs0), (.int xs1), (.int xs2), (.int xs3), (.int xs4)]) (Or.inl ⟨rfl, rfl⟩) (by decide) (by decide) (by decide) (by decide) (by decide) rfl (Nat.le_of_ble_eq_true rfl) N110 (by omega) (g := (mkF m 22 (la4 x1 d1 (2 : Int32) (0 : Int32)) [(.int 5), (.int 2), (.ref d1), (.int 0), (.ref t1)])) rfl (by rw [hml]; rfl) rfl (hb hby d25_22) (by decide) (W := 0) (wz rfl) (by decide)
 have sz114 : h0.size ≤ h114.size := K114.1
 have nz114 := Nat.le_trans Z0 sz114
 have V114 : Arv Z h114 d1 kd .byte (16 : Int32) [(.int xe0), (.int xe1), (.int xs0), (.int xs1), (.int xs2), (.int xs3), (.int xs4), (.int 0), (.int 0), (.int 0), (.int 0), (.int 0), (.int 0), (.int 0), (.int 0), (.int 0)] (.int 0) := A114
 obtain ⟨fs, hr, hrun, hended, hW, hsame⟩ := X114.leave (v := none) (fun _ => rfl)
 refine ⟨_, _, pre0 _ ?_, hrun, hended, _, _, rfl, ?_, ⟨_, rfl⟩, hW, hsame.mono (by decide) (by decide)⟩
 ·show GO p e below s₁ (mkF m 0 (la4 x1 d1 (2 : Int32) (0 : Int32)) []) _
  refine XS.aloadN X0.here hx rfl (hb hby d25_0) rfl rfl ?_
  show GO p e below s₁ (mkF m 1 (la4 x1 d1 (2 : Int32) (0 : Int32)) [(.ref x1)]) _
  refine st110.trans ?_
  show GO p e below T110 (mkF m 4 (la4 x1 d1 (2 : Int32) (0 : Int32)) [(.int 0)]) _
  refine XS.iloadN X110.here hx rfl (hb hby d25_4) rfl ?_
  show GO p e below T110 (mkF m 5 (la4 x1 d1 (2 : Int32) (0 : Int32)) [(.int 0), (.int 0)]) _
  refine XS.icmpNo X110.here hx rfl (hb hby d25_5) rfl (teq (rfl : (0 : Int32) = (0 : Int32))).2 ?_
  show GO p e below T110 (mkF m 8 (la4 x1 d1 (2 : Int32) (0 : Int32)) []) _
  refine XS.aloadN X110.here hx rfl (hb hby d25_8) rfl rfl ?_
  show GO p e below T110 (mkF m 9 (la4 x1 d1 (2 : Int32) (0 : Int32)) [(.ref x1)]) _
  refine st111 _ ?_
  show GO p e below T111 (mkF m 12 (la4 x1 d1 (2 : Int32) (0 : Int32)) [(.ref t1)]) _
  refine XS.iconst X111.here hx rfl (hb hby d25_12) ?_
  show GO p e below T111 (mkF m 13 (la4 x1 d1 (2 : Int32) (0 : Int32)) [(.int 0), (.ref t1)]) _
  refine XS.aloadN X111.here hx rfl (hb hby d25_13) rfl rfl ?_
  show GO p e below T111 (mkF m 14 (la4 x1 d1 (2 : Int32) (0 : Int32)) [(.ref d1), (.int 0), (.ref t1)]) _
  refine XS.iloadN X111.here hx rfl (hb hby d25_14) rfl ?_
  show GO p e below T111 (mkF m 15 (la4 x1 d1 (2 : Int32) (0 : Int32)) [(.int 2), (.ref d1), (.int 0), (.ref t1)]) _
  refine XS.iloadN X111.here hx rfl (hb hby d25_15) rfl ?_
  show GO p e below T111 (mkF m 16 (la4 x1 d1 (2 : Int32) (0 : Int32)) [(.int 0), (.int 2), (.ref d1), (.int 0), (.ref t1)]) _
  refine XS.ishl X111.here hx rfl (hb hby d25_16) rfl ?_
  rw [show ((2 : Int32) <<< ((0 : Int32) &&& 31)) = (2 : Int32) from by decide]
  show GO p e below T111 (mkF m 17 (la4 x1 d1 (2 : Int32) (0 : Int32)) [(.int 2), (.ref d1), (.int 0), (.ref t1)]) _
  refine XS.aloadN X111.here hx rfl (hb hby d25_17) rfl rfl ?_
  show GO p e below T111 (mkF m 18 (la4 x1 d1 (2 : Int32) (0 : Int32)) [(.ref x1), (.int 2), (.ref d1), (.int 0), (.ref t1)]) _
  refine st112 _ ?_
  show GO p e below T112 (mkF m 21 (la4 x1 d1 (2 : Int32) (0 : Int32)) [(.ref t1), (.int 2), (.ref d1), (.int 0), (.ref t1)]) _
  refine X112.arraylength hx (by rw [e112]; exact Ar113.1) (State.isArrayOf_alike hZ.alike Ar113.2.1) (g := (mkF m 21 (la4 x1 d1 (2 : Int32) (0 : Int32)) [(.ref t1), (.int 2), (.ref d1), (.int 0), (.ref t1)])) rfl rfl (hb hby d25_21) _ ?_
  rw [len_of S113 M113]
  show GO p e below T112 (mkF m 22 (la4 x1 d1 (2 : Int32) (0 : Int32)) [(.int 5), (.int 2), (.ref d1), (.int 0), (.ref t1)]) _
  refine st114 _ ?_
  show GO p e below T114 (mkF m 25 (la4 x1 d1 (2 : Int32) (0 : Int32)) []) _
  refine XS.goto X114.here hx rfl (pc0 := 25) (pc' := 43) rfl (hb hby d25_25) (by decide) (by decide) ?_
  show GO p e below T114 (mkF m 43 (la4 x1 d1 (2 : Int32) (0 : Int32)) []) _
  exact X114.returnOut hx Bd.returns (hb hby d25_43) hr
 ·show Qrm_gb_5_2_16 Z x1 t1 k1 xs0 xs1 xs2 xs3 xs4 d1 kd xe0 xe1 z0 h0 n0 _ T114.heap _
  rw [e114]
  exact ⟨rfl, N114, ((Keep.refl h0 [d1]).trans K114 (allS (P := fun x => x ∈ _ ∨ _) (Or.inl (List.mem_of_getElem? (i := 0) rfl)) all0)), V114⟩
def Qrm_ps_5_2_16 (Z : State) (x1 : Addr) (t1 : Addr) (k1 : ClassId) (xs0 : Int32) (xs1 : Int32) (xs2 : Int32) (xs3 : Int32) (xs4 : Int32) (a1 : Addr) (d1 : Addr) (kd : ClassId) (xe0 : Int32) (xe1 : Int32) (z0 : Int32) (h0 : Heap) (n0 : Nat) (v : Option Value) (h : Heap) (L : List Loc) : Prop := v = none ∧ Fr n0 L ∧ Keep h0 h [d1] ∧ Arv Z h d1 kd .byte (16 : Int32) [(.int xe0), (.int xe1), (.int xs0), (.int xs1), (.int xs2), (.int xs3), (.int xs4), (.int 0), (.int 0), (.int 0), (.int 0), (.int 0), (.int 0), (.int 0), (.int 0), (.int 0)] (.int 0)
theorem ef_rm_ps_5_2_16 (m : MethodId) (x0 : Addr) (x1 : Int32) (x2 : Addr) : entryFrame m #[(.ref x0), (.int x1), (.ref x2)] 3 = mkF m 0 (la5 x0 x1 x2) [] := by first | rfl | (simp [entryFrame, mkF, argsToLocals, Value.category]; done)
theorem rm_ps_5_2_16 (l : Launch) (Z : State) (a0 : Array Value) (hw : HW Z a0) (ws : List Jvm.Cond) (x1 : Addr) (t1 : Addr) (k1 : ClassId) (xs0 : Int32) (xs1 : Int32) (xs2 : Int32) (xs3 : Int32) (xs4 : Int32) (a1 : Addr) (d1 : Addr) (kd : ClassId) (xe0 : Int32) (xe1 : Int32) (z0 : Int32) (h0 : Heap) (n0 : Nat) (Z0 : n0 ≤ h0.size) (O0 : Old Z n0 h0) (Esx1 : Exa Z h0 x1 kS1) (Fcx1 : Fld Z h0 x1 kS1 "coder" "B" (.int 0)) (Fvx1 : Fld Z h0 x1 kS1 "value" "[B" (.ref t1)) (Vsx1 : Arv Z h0 t1 k1 .byte (5 : Int32) [(.int xs0), (.int xs1), (.int xs2), (.int xs3), (.int xs4)] (.int 0)) (Eb : Exa Z h0 a1 kS2) (Fbv : Fld Z h0 a1 kS0 "value" "[B" (.ref d1)) (Fbc : Fld Z h0 a1 kS0 "coder" "B" (.int 0)) (Fbn : Fld Z h0 a1 kS0 "count" "I" (.int 2)) (Vb : Arv Z h0 d1 kd .byte (16 : Int32) [(.int xe0), (.int xe1), (.int 0), (.int 0), (.int 0), (.int 0), (.int 0), (.int 0), (.int 0), (.int 0), (.int 0), (.int 0), (.int 0), (.int 0), (.int 0), (.int 0)] (.int 0)) (SZc : Sta Z Z.heap kS1 "COMPACT_STRINGS" "Z" (.int z0)) (hz0 : ¬ z0 = 0) (gd : n0 ≤ d1) (ned : t1 ≠ d1) :
  OwnM l Z h0 (⟨kS0, "putStringAt", "(ILjava/lang/String;)V"⟩ : MethodName) (Jvm.Cond.code (⟨kS0, "putStringAt", "(ILjava/lang/String;)V"⟩ : MethodName) jdk_68_method_73_code 3 none :: ws) (RM 2 0 0 33) #[(.ref a1), (.int 2), (.ref x1)] (Qrm_ps_5_2_16 Z x1 t1 k1 xs0 xs1 xs2 xs3 xs4 a1 d1 kd xe0 xe1 z0 h0 n0) := by
 refine MetFree.of_bodySF (plainFor_of_name pn_6) hisR ?_
 intro p e s m args below meth c s₁ Bd hml0 hP hK
 obtain ⟨rfl, hZ, hh⟩ := hP
 have hx := Bd.exec
 have hby := Bd.bytes
 have hml : c.maxLocals = 3 := hml0
 have hown : s.vm.findClass kS0 = some m.cls := findClass_of_methodNamed Bd.named
 have hnm := (name_of_methodNamed Bd.named Bd.method).1
 have X0 : Stand p l e (RM 2 0 0 33) s m #[(.ref a1), (.int 2), (.ref x1)] below meth c s₁ [] 0 0 := Stand.of_body Bd
 have e0 : s₁.heap = h0 := by rw [← hh, Bd.state]; rfl
 have N0 := Fr.nil n0
 have pre0 : ∀ t, GO p e below s₁ (mkF m 0 (la5 a1 (2 : Int32) x1) []) t → GO p e below s₁ (entryFrame m #[(.ref a1), (.int 2), (.ref x1)] 3) t := fun t k => castTop (ef_rm_ps_5_2_16 m a1 ((2 : Int32)) x1) k
 have lt_Esx1 := ltA Esx1.lt
 have lt_Fcx1 := ltA Fcx1.lt
 have lt_Fvx1 := ltA Fvx1.lt
 have lt_Vsx1 := ltA Vsx1.lt
 have lt_Eb := ltA Eb.lt
 have lt_Fbv := ltA Fbv.lt
 have lt_Fbc := ltA Fbc.lt
 have lt_Fbn := ltA Fbn.lt
 have lt_Vb := ltA Vb.lt
 -- pc 2: AbstractStringBuilder.inflateIfNeededFor by rm_inf
 obtain ⟨cq115, q115a, q115b⟩ := Eb.cell
 obtain ⟨_, _, ⟨T115, L115, k115, n115⟩, -, X115, ⟨Lc115, hQ115, l115, y115, z115⟩, st115⟩ := X0.privateBack hx (y := (⟨kS0, "inflateIfNeededFor", "(Ljava/lang/String;)V"⟩ : MethodName)) hown (mvT hZ (wd hw 127 rfl)) (mvT hZ (wd hw 128 rfl)) (mvT hZ (own_selfsel (wd hw 130 rfl) (wd hw 129 rfl) (wd hw 128 rfl) (by decide))) (Cond.privateMethod_at (mvP hZ (wd hw 129 rfl) (args := #[]))) (mvT hZ (wd hw 131 rfl)) (by decide) (backOf (W := 0) (rm_inf l Z a0 hw [] a1 x1 z0 h0 n0 Z0 O0 Fbc Esx1 Fcx1 (by first | assumption | decide | omega) (by first | assumption | decide | omega)) hZ (wd hw 131 rfl) (wd hw 87 rfl) (by decide) (by decide)) (g := (mkF m 2 (la5 a1 (2 : Int32) x1) [(.ref x1), (.ref a1)])) rfl (by rw [hml]; rfl) (Steps.refl _) (a := a1) (by rw [e0]; exact q115a) q115b (argsL := [(.ref x1)]) (rest := []) (lenOf pd_8 rfl) rfl (wz rfl) (hb hby d23_2) (fun _ _ => ⟨rfl, e0, (by decide : 0 + 0 ≤ _), (by decide : 0 + 0 ≤ _)⟩)
 dsimp only [Pt.U, Pt.locs, Pt.cells, Pt.slots] at X115 l115 y115 z115 st115 hQ115
 rw [l115, y115, z115] at X115
 obtain ⟨rfl, N115q, e115⟩ := hQ115
 have N115 := Fr.app N0 N115q
 obtain ⟨T116, X116, e116, st116⟩ := getF X115 hx hZ hown (host := "") (Or.inl (wd hw 91 rfl)) Via.refl e115 Fbv (g := (mkF m 7 (la5 a1 (2 : Int32) x1) [(.ref a1), (.ref x1)])) rfl rfl (hb hby d23_7)
 obtain ⟨T117, X117, e117, st117⟩ := getF X116 hx hZ hown (host := "") (Or.inl (wd hw 93 rfl)) Via.refl e116 Fbc (g := (mkF m 12 (la5 a1 (2 : Int32) x1) [(.ref a1), (.int 2), (.ref d1), (.ref x1)])) rfl rfl (hb hby d23_12)
 -- pc 15: String.getBytes by rm_gb_5_2_16
 obtain ⟨cq118, kq118, q118a, q118b, q118c⟩ := isOf hZ e117 Esx1
 obtain ⟨_, _, ⟨T118, L118, k118, n118⟩, -, X118, ⟨Lc118, hQ118, l118, y118, z118⟩, st118⟩ := X117.virtualBack hx (y := (⟨kS1, "getBytes", "([BIB)V"⟩ : MethodName)) (z := (⟨kS1, "getBytes", "([BIB)V"⟩ : MethodName)) hown (mvT hZ (wd hw 133 rfl)) (mvT hZ (wd hw 134 rfl)) (notFace_of_selects (args := #[]) (mvT hZ (wd hw 136 rfl))) (mvT hZ (wd hw 136 rfl)) (mvT hZ (wd hw 135 rfl)) (by decide) (backOf (W := 0) (rm_gb_5_2_16 l Z a0 hw [] x1 t1 k1 xs0 xs1 xs2 xs3 xs4 d1 kd xe0 xe1 z0 h0 n0 Z0 O0 Esx1 Fcx1 Fvx1 Vsx1 Vb (by first | assumption | decide | omega) (by first | assumption | decide | omega) (by first | assumption | decide | omega) ned) hZ (wd hw 137 rfl) (wd hw 2 rfl) (by decide) (by decide)) q118a q118c (g := (mkF m 15 (la5 a1 (2 : Int32) x1) [(.int 0), (.int 2), (.ref d1), (.ref x1)])) rfl (by rw [hml]; rfl) (Steps.refl _) (argsL := [(.ref d1), (.int 2), (.int 0)]) (rest := []) (lenOf pd_9 rfl) rfl (wz rfl) (hb hby d23_15) (fun _ _ => ⟨rfl, e117, (by decide : 0 + 0 ≤ _), (by decide : 0 + 0 ≤ _)⟩)
 dsimp only [Pt.U, Pt.locs, Pt.cells, Pt.slots] at X118 l118 y118 z118 st118 hQ118
 rw [l118, y118, z118] at X118
 obtain ⟨h118, e118⟩ : ∃ z, T118.heap = z := ⟨_, rfl⟩
 rw [e118] at hQ118
 obtain ⟨rfl, N118q, K118, p118_0⟩ := hQ118
 have N118 := Fr.app N115 N118q
 have sz118 : h0.size ≤ h118.size := K118.1
 have nz118 := Nat.le_trans Z0 sz118
 have lt118_0 := ltA p118_0.lt
 obtain ⟨fs, hr, hrun, hended, hW, hsame⟩ := X118.leave (v := none) (fun _ => rfl)
 refine ⟨_, _, pre0 _ ?_, hrun, hended, _, _, rfl, ?_, ⟨_, rfl⟩, hW, hsame.mono (by decide) (by decide)⟩
 ·show GO p e below s₁ (mkF m 0 (la5 a1 (2 : Int32) x1) []) _
  refine XS.aloadN X0.here hx rfl (hb hby d23_0) rfl rfl ?_
  show GO p e below s₁ (mkF m 1 (la5 a1 (2 : Int32) x1) [(.ref a1)]) _
  refine XS.aloadN X0.here hx rfl (hb hby d23_1) rfl rfl ?_
  show GO p e below s₁ (mkF m 2 (la5 a1 (2 : Int32) x1) [(.ref x1), (.ref a1)]) _
  refine st115.trans ?_
  show GO p e below T115 (mkF m 5 (la5 a1 (2 : Int32) x1) []) _
  refine XS.aloadN X115.here hx rfl (hb hby d23_5) rfl rfl ?_
  show GO p e below T115 (mkF m 6 (la5 a1 (2 : Int32) x1) [(.ref x1)]) _
  refine XS.aloadN X115.here hx rfl (hb hby d23_6) rfl rfl ?_
  show GO p e below T115 (mkF m 7 (la5 a1 (2 : Int32) x1) [(.ref a1), (.ref x1)]) _
  refine st116 _ ?_
  show GO p e below T116 (mkF m 10 (la5 a1 (2 : Int32) x1) [(.ref d1), (.ref x1)]) _
  refine XS.iloadN X116.here hx rfl (hb hby d23_10) rfl ?_
  show GO p e below T116 (mkF m 11 (la5 a1 (2 : Int32) x1) [(.int 2), (.ref d1), (.ref x1)]) _
  refine XS.aloadN X116.here hx rfl (hb hby d23_11) rfl rfl ?_
  show GO p e below T116 (mkF m 12 (la5 a1 (2 : Int32) x1) [(.ref a1), (.int 2), (.ref d1), (.ref x1)]) _
  refine st117 _ ?_
  show GO p e below T117 (mkF m 15 (la5 a1 (2 : Int32) x1) [(.int 0), (.int 2), (.ref d1), (.ref x1)]) _
  refine st118.trans ?_
  show GO p e below T118 (mkF m 18 (la5 a1 (2 : Int32) x1) []) _
  exact X118.returnOut hx Bd.returns (hb hby d23_18) hr
 ·show Qrm_ps_5_2_16 Z x1 t1 k1 xs0 xs1 xs2 xs3 xs4 a1 d1 kd xe0 xe1 z0 h0 n0 _ T118.heap _
  rw [e118]
  exact ⟨rfl, N118, ((Keep.refl h0 [d1]).trans K118 (allS (P := fun x => x ∈ _ ∨ _) (Or.inl (List.mem_of_getElem? (i := 0) rfl)) all0)), p118_0⟩
def Qrm_aa_5_2_16 (Z : State) (x1 : Addr) (t1 : Addr) (k1 : ClassId) (xs0 : Int32) (xs1 : Int32) (xs2 : Int32) (xs3 : Int32) (xs4 : Int32) (a1 : Addr) (d1 : Addr) (kd : ClassId) (xe0 : Int32) (xe1 : Int32) (z0 : Int32) (h0 : Heap) (n0 : Nat) (v : Option Value) (h : Heap) (L : List Loc) : Prop := v = some (.ref a1) ∧ Fr n0 L ∧ Keep h0 h [a1, d1] ∧ Exa Z h a1 kS2 ∧ Fld Z h a1 kS0 "value" "[B" (.ref d1) ∧ Fld Z h a1 kS0 "coder" "B" (.int 0) ∧ Fld Z h a1 kS0 "count" "I" (.int 7) ∧ Arv Z h d1 kd .byte (16 : Int32) [(.int xe0), (.int xe1), (.int xs0), (.int xs1), (.int xs2), (.int xs3), (.int xs4), (.int 0), (.int 0), (.int 0), (.int 0), (.int 0), (.int 0), (.int 0), (.int 0), (.int 0)] (.int 0)
theorem ef_rm_aa_5_2_16 (m : MethodId) (x0 : Addr) (x1 : Addr) : entryFrame m #[(.ref x0), (.ref x1)] 3 = mkF m 0 (la6 x0 x1) [] := by first | rfl | (simp [entryFrame, mkF, argsToLocals, Value.category]; done)
theorem rm_aa_5_2_16 (l : Launch) (Z : State) (a0 : Array Value) (hw : HW Z a0) (ws : List Jvm.Cond) (x1 : Addr) (t1 : Addr) (k1 : ClassId) (xs0 : Int32) (xs1 : Int32) (xs2 : Int32) (xs3 : Int32) (xs4 : Int32) (a1 : Addr) (d1 : Addr) (kd : ClassId) (xe0 : Int32) (xe1 : Int32) (z0 : Int32) (h0 : Heap) (n0 : Nat) (Z0 : n0 ≤ h0.size) (O0 : Old Z n0 h0) (Esx1 : Exa Z h0 x1 kS1) (Fcx1 : Fld Z h0 x1 kS1 "coder" "B" (.int 0)) (Fvx1 : Fld Z h0 x1 kS1 "value" "[B" (.ref t1)) (Vsx1 : Arv Z h0 t1 k1 .byte (5 : Int32) [(.int xs0), (.int xs1), (.int xs2), (.int xs3), (.int xs4)] (.int 0)) (Eb : Exa Z h0 a1 kS2) (Fbv : Fld Z h0 a1 kS0 "value" "[B" (.ref d1)) (Fbc : Fld Z h0 a1 kS0 "coder" "B" (.int 0)) (Fbn : Fld Z h0 a1 kS0 "count" "I" (.int 2)) (Vb : Arv Z h0 d1 kd .byte (16 : Int32) [(.int xe0), (.int xe1), (.int 0), (.int 0), (.int 0), (.int 0), (.int 0), (.int 0), (.int 0), (.int 0), (.int 0), (.int 0), (.int 0), (.int 0), (.int 0), (.int 0)] (.int 0)) (SZc : Sta Z Z.heap kS1 "COMPACT_STRINGS" "Z" (.int z0)) (hz0 : ¬ z0 = 0) (ga : n0 ≤ a1) (gd : n0 ≤ d1) (ned : t1 ≠ d1) :
  OwnM l Z h0 (⟨kS0, "append", "(Ljava/lang/String;)Ljava/lang/AbstractStringBuilder;"⟩ : MethodName) (Jvm.Cond.code (⟨kS0, "append", "(Ljava/lang/String;)Ljava/lang/AbstractStringBuilder;"⟩ : MethodName) jdk_68_method_22_code 3 (some (.object kS0)) :: ws) (RM 3 0 0 47) #[(.ref a1), (.ref x1)] (Qrm_aa_5_2_16 Z x1 t1 k1 xs0 xs1 xs2 xs3 xs4 a1 d1 kd xe0 xe1 z0 h0 n0) := by
 refine MetFree.of_bodySF (plainFor_of_name pn_6) hisR ?_
 intro p e s m args below meth c s₁ Bd hml0 hP hK
 obtain ⟨rfl, hZ, hh⟩ := hP
 have hx := Bd.exec
 have hby := Bd.bytes
 have hml : c.maxLocals = 3 := hml0
 have hown : s.vm.findClass kS0 = some m.cls := findClass_of_methodNamed Bd.named
 have hnm := (name_of_methodNamed Bd.named Bd.method).1
 have X0 : Stand p l e (RM 3 0 0 47) s m #[(.ref a1), (.ref x1)] below meth c s₁ [] 0 0 := Stand.of_body Bd
 have e0 : s₁.heap = h0 := by rw [← hh, Bd.state]; rfl
 have N0 := Fr.nil n0
 have pre0 : ∀ t, GO p e below s₁ (mkF m 0 (la6 a1 x1) []) t → GO p e below s₁ (entryFrame m #[(.ref a1), (.ref x1)] 3) t := fun t k => castTop (ef_rm_aa_5_2_16 m a1 x1) k
 have lt_Esx1 := ltA Esx1.lt
 have lt_Fcx1 := ltA Fcx1.lt
 have lt_Fvx1 := ltA Fvx1.lt
 have lt_Vsx1 := ltA Vsx1.lt
 have lt_Eb := ltA Eb.lt
 have lt_Fbv := ltA Fbv.lt
 have lt_Fbc := ltA Fbc.lt
 have lt_Fbn := ltA Fbn.lt
 have lt_Vb := ltA Vb.lt
 -- pc 10: String.length by rm_sl5
 obtain ⟨cq119, kq119, q119a, q119b, q119c⟩ := isOf hZ e0 Esx1
 obtain ⟨_, _, ⟨T119, L119, k119, n119⟩, -, X119, ⟨Lc119, hQ119, l119, y119, z119⟩, st119⟩ := X0.virtualBack hx (y := (⟨kS1, "length", "()I"⟩ : MethodName)) (z := (⟨kS1, "length", "()I"⟩ : MethodName)) hown (mvT hZ (wd hw 105 rfl)) (mvT hZ (wd hw 106 rfl)) (notFace_of_selects (args := #[]) (mvT hZ (wd hw 108 rfl))) (mvT hZ (wd hw 108 rfl)) (mvT hZ (wd hw 107 rfl)) (by decide) (backOf (W := 0) (rm_sl5 l Z a0 hw [] x1 t1 k1 xs0 xs1 xs2 xs3 xs4 z0 h0 n0 Z0 O0 Esx1 Fcx1 Fvx1 Vsx1 (by first | assumption | decide | omega) (by first | assumption | decide | omega)) hZ (wd hw 109 rfl) (wd hw 2 rfl) (by decide) (by decide)) q119a q119c (g := (mkF m 10 (la6 a1 x1) [(.ref x1)])) rfl (by rw [hml]; rfl) (Steps.refl _) (argsL := []) (rest := []) (lenOf pd_10 rfl) rfl (wz rfl) (hb hby d19_10) (fun _ _ => ⟨rfl, e0, (by decide : 0 + 0 ≤ _), (by decide : 0 + 0 ≤ _)⟩)
 dsimp only [Pt.U, Pt.locs, Pt.cells, Pt.slots] at X119 l119 y119 z119 st119 hQ119
 rw [l119, y119, z119] at X119
 obtain ⟨rfl, N119q, e119⟩ := hQ119
 have N119 := Fr.app N0 N119q
 obtain ⟨T120, X120, e120, st120⟩ := getF X119 hx hZ hown (host := "") (Or.inl (wd hw 115 rfl)) Via.refl e119 Fbn (g := (mkF m 16 (la0 a1 x1 (5 : Int32)) [(.ref a1), (.ref a1)])) rfl rfl (hb hby d19_16)
 -- pc 21: AbstractStringBuilder.ensureCapacityInternal by rm_en_16
 obtain ⟨cq121, q121a, q121b⟩ := Eb.cell
 obtain ⟨_, _, ⟨T121, L121, k121, n121⟩, -, X121, ⟨Lc121, hQ121, l121, y121, z121⟩, st121⟩ := X120.privateBack hx (y := (⟨kS0, "ensureCapacityInternal", "(I)V"⟩ : MethodName)) hown (mvT hZ (wd hw 117 rfl)) (mvT hZ (wd hw 118 rfl)) (mvT hZ (own_selfsel (wd hw 120 rfl) (wd hw 119 rfl) (wd hw 118 rfl) (by decide))) (Cond.privateMethod_at (mvP hZ (wd hw 119 rfl) (args := #[]))) (mvT hZ (wd hw 121 rfl)) (by decide) (backOf (W := 0) (rm_en_16 l Z a0 hw [] a1 d1 kd ([(.int xe0), (.int xe1), (.int 0), (.int 0), (.int 0), (.int 0), (.int 0), (.int 0), (.int 0), (.int 0), (.int 0), (.int 0), (.int 0), (.int 0), (.int 0), (.int 0)]) (7 : Int32) h0 n0 Z0 Fbv Fbc Vb (by decide)) hZ (wd hw 121 rfl) (wd hw 87 rfl) (by decide) (by decide)) (g := (mkF m 21 (la0 a1 x1 (5 : Int32)) [(.int 7), (.ref a1)])) rfl (by rw [hml]; rfl) (Steps.refl _) (a := a1) (by rw [e120]; exact q121a) q121b (argsL := [(.int 7)]) (rest := []) (lenOf pd_6 rfl) rfl (wz rfl) (hb hby d19_21) (fun _ _ => ⟨rfl, e120, (by decide : 0 + 0 ≤ _), (by decide : 0 + 0 ≤ _)⟩)
 dsimp only [Pt.U, Pt.locs, Pt.cells, Pt.slots] at X121 l121 y121 z121 st121 hQ121
 rw [l121, y121, z121] at X121
 obtain ⟨rfl, N121q, e121⟩ := hQ121
 have N121 := Fr.app N119 N121q
 obtain ⟨T122, X122, e122, st122⟩ := getF X121 hx hZ hown (host := "") (Or.inl (wd hw 115 rfl)) Via.refl e121 Fbn (g := (mkF m 26 (la0 a1 x1 (5 : Int32)) [(.ref a1), (.ref a1)])) rfl rfl (hb hby d19_26)
 -- pc 30: AbstractStringBuilder.putStringAt by rm_ps_5_2_16
 obtain ⟨cq123, q123a, q123b⟩ := Eb.cell
 obtain ⟨_, _, ⟨T123, L123, k123, n123⟩, -, X123, ⟨Lc123, hQ123, l123, y123, z123⟩, st123⟩ := X122.privateBack hx (y := (⟨kS0, "putStringAt", "(ILjava/lang/String;)V"⟩ : MethodName)) hown (mvT hZ (wd hw 122 rfl)) (mvT hZ (wd hw 123 rfl)) (mvT hZ (own_selfsel (wd hw 125 rfl) (wd hw 124 rfl) (wd hw 123 rfl) (by decide))) (Cond.privateMethod_at (mvP hZ (wd hw 124 rfl) (args := #[]))) (mvT hZ (wd hw 126 rfl)) (by decide) (backOf (W := 0) (rm_ps_5_2_16 l Z a0 hw [] x1 t1 k1 xs0 xs1 xs2 xs3 xs4 a1 d1 kd xe0 xe1 z0 h0 n0 Z0 O0 Esx1 Fcx1 Fvx1 Vsx1 Eb Fbv Fbc Fbn Vb (by first | assumption | decide | omega) (by first | assumption | decide | omega) (by first | assumption | decide | omega) ned) hZ (wd hw 126 rfl) (wd hw 87 rfl) (by decide) (by decide)) (g := (mkF m 30 (la0 a1 x1 (5 : Int32)) [(.ref x1), (.int 2), (.ref a1)])) rfl (by rw [hml]; rfl) (Steps.refl _) (a := a1) (by rw [e122]; exact q123a) q123b (argsL := [(.int 2), (.ref x1)]) (rest := []) (lenOf pd_11 rfl) rfl (wz rfl) (hb hby d19_30) (fun _ _ => ⟨rfl, e122, (by decide : 0 + 0 ≤ _), (by decide : 0 + 0 ≤ _)⟩)
 dsimp only [Pt.U, Pt.locs, Pt.cells, Pt.slots] at X123 l123 y123 z123 st123 hQ123
 rw [l123, y123, z123] at X123
 obtain ⟨h123, e123⟩ : ∃ z, T123.heap = z := ⟨_, rfl⟩
 rw [e123] at hQ123
 obtain ⟨rfl, N123q, K123, p123_0⟩ := hQ123
 have N123 := Fr.app N121 N123q
 have ne124 : d1 ≠ x1 := Ne.symm (Exa.neArv Esx1 Vb (wd hw 1 rfl))
 have ne125 : d1 ≠ a1 := Ne.symm (Exa.neArv Eb Vb (wd hw 78 rfl))
 have sz123 : h0.size ≤ h123.size := K123.1
 have nz123 := Nat.le_trans Z0 sz123
 have lt123_0 := ltA p123_0.lt
 have f126 : Fld Z h123 a1 kS0 "count" "I" (.int 2) := (Fbn.keep K123 (ninS (Ne.symm ne125) nin0))
 obtain ⟨T127, X127, e127, st127⟩ := getF X123 hx hZ hown (host := "") (Or.inl (wd hw 115 rfl)) Via.refl e123 f126 (g := (mkF m 35 (la0 a1 x1 (5 : Int32)) [(.ref a1), (.ref a1)])) rfl rfl (hb hby d19_35)
 have f128 : Exa Z h123 a1 kS2 := (Eb.keep K123)
 obtain ⟨T129, h129, X129, e129, W129, st129⟩ := putF X127 hx hZ hown (host := "") (Or.inl (wd hw 115 rfl)) Via.refl e127 f126 f128 (Or.inl (wd hw 116 rfl)) (wd hw 78 rfl) (ty := .int) (by decide) rfl rfl (g := (mkF m 40 (la0 a1 x1 (5 : Int32)) [(.int 7), (.ref a1)])) rfl rfl (hb hby d19_40)
 have ge130 : n0 ≤ a1 := by omega
 have N129 := Fr.snoc X129 N123 ge130
 have f131 : Exa Z h123 x1 kS1 := (Esx1.keep K123)
 have ne132 : a1 ≠ x1 := ne_exa f128 f131 (by decide)
 have f133 : Arv Z h123 t1 k1 .byte (5 : Int32) [(.int xs0), (.int xs1), (.int xs2), (.int xs3), (.int xs4)] (.int 0) := (Vsx1.keep K123 (ninS ned nin0))
 have ne134 : a1 ≠ t1 := Exa.neArv f128 f133 (wd hw 78 rfl)
 have sz129 : h123.size ≤ h129.size := Nat.le_of_eq W129.size.symm
 have nz129 := Nat.le_trans nz123 sz129
 have f129 : Fld Z h129 a1 kS0 "count" "I" (.int 7) := f126.same W129
 have f135 : Exa Z h129 a1 kS2 := (f128.wr W129)
 have f136 : Fld Z h129 a1 kS0 "value" "[B" (.ref d1) := ((Fbv.keep K123 (ninS (Ne.symm ne125) nin0)).other W129 (Or.inr (slot_ne (Or.inl (wd hw 92 rfl)) (Or.inl (wd hw 116 rfl)) (by decide) (t := (.array .byte)) (t' := .int) (by decide) (by decide))))
 have f137 : Fld Z h129 a1 kS0 "coder" "B" (.int 0) := ((Fbc.keep K123 (ninS (Ne.symm ne125) nin0)).other W129 (Or.inr (slot_ne (Or.inl (wd hw 94 rfl)) (Or.inl (wd hw 116 rfl)) (by decide) (t := .byte) (t' := .int) (by decide) (by decide))))
 have f138 : Arv Z h129 d1 kd .byte (16 : Int32) [(.int xe0), (.int xe1), (.int xs0), (.int xs1), (.int xs2), (.int xs3), (.int xs4), (.int 0), (.int 0), (.int 0), (.int 0), (.int 0), (.int 0), (.int 0), (.int 0), (.int 0)] (.int 0) := (p123_0.other W129 ne125)
 obtain ⟨fs, hr, hrun, hended, hW, hsame⟩ := X129.leave (v := some (.ref a1)) (fun h => by rw [Bd.returns] at h; cases h)
 refine ⟨_, _, pre0 _ ?_, hrun, hended, _, _, rfl, ?_, ⟨_, rfl⟩, hW, hsame.mono (by decide) (by decide)⟩
 ·show GO p e below s₁ (mkF m 0 (la6 a1 x1) []) _
  refine XS.aloadN X0.here hx rfl (hb hby d19_0) rfl rfl ?_
  show GO p e below s₁ (mkF m 1 (la6 a1 x1) [(.ref x1)]) _
  refine XS.ifnonnullYes X0.here hx rfl (pc0 := 1) (pc' := 9) rfl (hb hby d19_1) rfl (by decide) (by decide) ?_
  show GO p e below s₁ (mkF m 9 (la6 a1 x1) []) _
  refine XS.aloadN X0.here hx rfl (hb hby d19_9) rfl rfl ?_
  show GO p e below s₁ (mkF m 10 (la6 a1 x1) [(.ref x1)]) _
  refine st119.trans ?_
  show GO p e below T119 (mkF m 13 (la6 a1 x1) [(.int 5)]) _
  refine XS.istoreN X119.here hx rfl (hb hby d19_13) rfl (l' := (la0 a1 x1 (5 : Int32))) rfl ?_
  show GO p e below T119 (mkF m 14 (la0 a1 x1 (5 : Int32)) []) _
  refine XS.aloadN X119.here hx rfl (hb hby d19_14) rfl rfl ?_
  show GO p e below T119 (mkF m 15 (la0 a1 x1 (5 : Int32)) [(.ref a1)]) _
  refine XS.aloadN X119.here hx rfl (hb hby d19_15) rfl rfl ?_
  show GO p e below T119 (mkF m 16 (la0 a1 x1 (5 : Int32)) [(.ref a1), (.ref a1)]) _
  refine st120 _ ?_
  show GO p e below T120 (mkF m 19 (la0 a1 x1 (5 : Int32)) [(.int 2), (.ref a1)]) _
  refine XS.iloadN X120.here hx rfl (hb hby d19_19) rfl ?_
  show GO p e below T120 (mkF m 20 (la0 a1 x1 (5 : Int32)) [(.int 5), (.int 2), (.ref a1)]) _
  refine XS.iadd X120.here hx rfl (hb hby d19_20) rfl ?_
  rw [show ((2 : Int32) + (5 : Int32)) = (7 : Int32) from by decide]
  show GO p e below T120 (mkF m 21 (la0 a1 x1 (5 : Int32)) [(.int 7), (.ref a1)]) _
  refine st121.trans ?_
  show GO p e below T121 (mkF m 24 (la0 a1 x1 (5 : Int32)) []) _
  refine XS.aloadN X121.here hx rfl (hb hby d19_24) rfl rfl ?_
  show GO p e below T121 (mkF m 25 (la0 a1 x1 (5 : Int32)) [(.ref a1)]) _
  refine XS.aloadN X121.here hx rfl (hb hby d19_25) rfl rfl ?_
  show GO p e below T121 (mkF m 26 (la0 a1 x1 (5 : Int32)) [(.ref a1), (.ref a1)]) _
  refine st122 _ ?_
  show GO p e below T122 (mkF m 29 (la0 a1 x1 (5 : Int32)) [(.int 2), (.ref a1)]) _
  refine XS.aloadN X122.here hx rfl (hb hby d19_29) rfl rfl ?_
  show GO p e below T122 (mkF m 30 (la0 a1 x1 (5 : Int32)) [(.ref x1), (.int 2), (.ref a1)]) _
  refine st123.trans ?_
  show GO p e below T123 (mkF m 33 (la0 a1 x1 (5 : Int32)) []) _
  refine XS.aloadN X123.here hx rfl (hb hby d19_33) rfl rfl ?_
  show GO p e below T123 (mkF m 34 (la0 a1 x1 (5 : Int32)) [(.ref a1)]) _
  refine XS.dup X123.here hx rfl (hb hby d19_34) rfl rfl ?_
  show GO p e below T123 (mkF m 35 (la0 a1 x1 (5 : Int32)) [(.ref a1), (.ref a1)]) _
  refine st127 _ ?_
  show GO p e below T127 (mkF m 38 (la0 a1 x1 (5 : Int32)) [(.int 2), (.ref a1)]) _
  refine XS.iloadN X127.here hx rfl (hb hby d19_38) rfl ?_
  show GO p e below T127 (mkF m 39 (la0 a1 x1 (5 : Int32)) [(.int 5), (.int 2), (.ref a1)]) _
  refine XS.iadd X127.here hx rfl (hb hby d19_39) rfl ?_
  rw [show ((2 : Int32) + (5 : Int32)) = (7 : Int32) from by decide]
  show GO p e below T127 (mkF m 40 (la0 a1 x1 (5 : Int32)) [(.int 7), (.ref a1)]) _
  refine st129 _ ?_
  show GO p e below T129 (mkF m 43 (la0 a1 x1 (5 : Int32)) []) _
  refine XS.aloadN X129.here hx rfl (hb hby d19_43) rfl rfl ?_
  show GO p e below T129 (mkF m 44 (la0 a1 x1 (5 : Int32)) [(.ref a1)]) _
  exact retOut X129 hx Bd.returns rfl (Or.inr (Or.inr (Or.inr (Or.inr ⟨rfl, rfl, rfl⟩)))) (hb hby d19_44) hr
 ·show Qrm_aa_5_2_16 Z x1 t1 k1 xs0 xs1 xs2 xs3 xs4 a1 d1 kd xe0 xe1 z0 h0 n0 _ T129.heap _
  rw [e129]
  exact ⟨rfl, N129, (((Keep.refl h0 [a1, d1]).trans K123 (allS (P := fun x => x ∈ _ ∨ _) (Or.inl (List.mem_of_getElem? (i := 1) rfl)) all0)).wr W129 (Or.inl (List.mem_of_getElem? (i := 0) rfl))), f135, f136, f137, f129, f138⟩
def Qrm_sa_5_2_16 (Z : State) (x1 : Addr) (t1 : Addr) (k1 : ClassId) (xs0 : Int32) (xs1 : Int32) (xs2 : Int32) (xs3 : Int32) (xs4 : Int32) (a1 : Addr) (d1 : Addr) (kd : ClassId) (xe0 : Int32) (xe1 : Int32) (z0 : Int32) (h0 : Heap) (n0 : Nat) (v : Option Value) (h : Heap) (L : List Loc) : Prop := v = some (.ref a1) ∧ Fr n0 L ∧ Keep h0 h [a1, d1] ∧ Exa Z h a1 kS2 ∧ Fld Z h a1 kS0 "value" "[B" (.ref d1) ∧ Fld Z h a1 kS0 "coder" "B" (.int 0) ∧ Fld Z h a1 kS0 "count" "I" (.int 7) ∧ Arv Z h d1 kd .byte (16 : Int32) [(.int xe0), (.int xe1), (.int xs0), (.int xs1), (.int xs2), (.int xs3), (.int xs4), (.int 0), (.int 0), (.int 0), (.int 0), (.int 0), (.int 0), (.int 0), (.int 0), (.int 0)] (.int 0)
theorem ef_rm_sa_5_2_16 (m : MethodId) (x0 : Addr) (x1 : Addr) : entryFrame m #[(.ref x0), (.ref x1)] 2 = mkF m 0 #[.val (.ref x0), .val (.ref x1)] [] := by first | rfl | (simp [entryFrame, mkF, argsToLocals, Value.category]; done)
theorem rm_sa_5_2_16 (l : Launch) (Z : State) (a0 : Array Value) (hw : HW Z a0) (ws : List Jvm.Cond) (x1 : Addr) (t1 : Addr) (k1 : ClassId) (xs0 : Int32) (xs1 : Int32) (xs2 : Int32) (xs3 : Int32) (xs4 : Int32) (a1 : Addr) (d1 : Addr) (kd : ClassId) (xe0 : Int32) (xe1 : Int32) (z0 : Int32) (h0 : Heap) (n0 : Nat) (Z0 : n0 ≤ h0.size) (O0 : Old Z n0 h0) (Esx1 : Exa Z h0 x1 kS1) (Fcx1 : Fld Z h0 x1 kS1 "coder" "B" (.int 0)) (Fvx1 : Fld Z h0 x1 kS1 "value" "[B" (.ref t1)) (Vsx1 : Arv Z h0 t1 k1 .byte (5 : Int32) [(.int xs0), (.int xs1), (.int xs2), (.int xs3), (.int xs4)] (.int 0)) (Eb : Exa Z h0 a1 kS2) (Fbv : Fld Z h0 a1 kS0 "value" "[B" (.ref d1)) (Fbc : Fld Z h0 a1 kS0 "coder" "B" (.int 0)) (Fbn : Fld Z h0 a1 kS0 "count" "I" (.int 2)) (Vb : Arv Z h0 d1 kd .byte (16 : Int32) [(.int xe0), (.int xe1), (.int 0), (.int 0), (.int 0), (.int 0), (.int 0), (.int 0), (.int 0), (.int 0), (.int 0), (.int 0), (.int 0), (.int 0), (.int 0), (.int 0)] (.int 0)) (SZc : Sta Z Z.heap kS1 "COMPACT_STRINGS" "Z" (.int z0)) (hz0 : ¬ z0 = 0) (ga : n0 ≤ a1) (gd : n0 ≤ d1) (ned : t1 ≠ d1) :
  OwnM l Z h0 (⟨kS2, "append", "(Ljava/lang/String;)Ljava/lang/StringBuilder;"⟩ : MethodName) (Jvm.Cond.code (⟨kS2, "append", "(Ljava/lang/String;)Ljava/lang/StringBuilder;"⟩ : MethodName) jdk_67_method_7_code 2 (some (.object kS2)) :: ws) (RM 4 0 0 61) #[(.ref a1), (.ref x1)] (Qrm_sa_5_2_16 Z x1 t1 k1 xs0 xs1 xs2 xs3 xs4 a1 d1 kd xe0 xe1 z0 h0 n0) := by
 refine MetFree.of_bodySF (plainFor_of_name pn_7) hisR ?_
 intro p e s m args below meth c s₁ Bd hml0 hP hK
 obtain ⟨rfl, hZ, hh⟩ := hP
 have hx := Bd.exec
 have hby := Bd.bytes
 have hml : c.maxLocals = 2 := hml0
 have hown : s.vm.findClass kS2 = some m.cls := findClass_of_methodNamed Bd.named
 have hnm := (name_of_methodNamed Bd.named Bd.method).1
 have X0 : Stand p l e (RM 4 0 0 61) s m #[(.ref a1), (.ref x1)] below meth c s₁ [] 0 0 := Stand.of_body Bd
 have e0 : s₁.heap = h0 := by rw [← hh, Bd.state]; rfl
 have N0 := Fr.nil n0
 have pre0 : ∀ t, GO p e below s₁ (mkF m 0 #[.val (.ref a1), .val (.ref x1)] []) t → GO p e below s₁ (entryFrame m #[(.ref a1), (.ref x1)] 2) t := fun t k => castTop (ef_rm_sa_5_2_16 m a1 x1) k
 have lt_Esx1 := ltA Esx1.lt
 have lt_Fcx1 := ltA Fcx1.lt
 have lt_Fvx1 := ltA Fvx1.lt
 have lt_Vsx1 := ltA Vsx1.lt
 have lt_Eb := ltA Eb.lt
 have lt_Fbv := ltA Fbv.lt
 have lt_Fbc := ltA Fbc.lt
 have lt_Fbn := ltA Fbn.lt
 have lt_Vb := ltA Vb.lt
 -- pc 2: AbstractStringBuilder.append by rm_aa_5_2_16
 obtain ⟨_, _, ⟨T139, L139, k139, n139⟩, -, X139, ⟨Lc139, hQ139, l139, y139, z139⟩, st139⟩ := superBack X0 hx hZ (y := (⟨kS0, "append", "(Ljava/lang/String;)Ljava/lang/AbstractStringBuilder;"⟩ : MethodName)) hown (wd hw 100 rfl) (own_sameM (y := (⟨kS0, "append", "(Ljava/lang/String;)Ljava/lang/AbstractStringBuilder;"⟩ : MethodName)) (wd hw 101 rfl) (wd hw 120 rfl) rfl (by decide)) (wd hw 101 rfl) (wd hw 102 rfl) (by decide) (backOf (W := 0) (rm_aa_5_2_16 l Z a0 hw [] x1 t1 k1 xs0 xs1 xs2 xs3 xs4 a1 d1 kd xe0 xe1 z0 h0 n0 Z0 O0 Esx1 Fcx1 Fvx1 Vsx1 Eb Fbv Fbc Fbn Vb (by first | assumption | decide | omega) (by first | assumption | decide | omega) (by first | assumption | decide | omega) (by first | assumption | decide | omega) ned) hZ (wd hw 104 rfl) (wd hw 87 rfl) (by decide) (by decide)) e0 (Ins.self Eb) (g := (mkF m 2 #[.val (.ref a1), .val (.ref x1)] [(.ref x1), (.ref a1)])) rfl (by rw [hml]; rfl) (wd hw 104 rfl) (argsL := [(.ref x1)]) (rest := []) (lenOf pd_12 rfl) rfl (wz rfl) (hb hby d18_2) (fun _ _ => ⟨rfl, e0, (by decide : 0 + 0 ≤ _), (by decide : 0 + 0 ≤ _)⟩)
 dsimp only [Pt.U, Pt.locs, Pt.cells, Pt.slots] at X139 l139 y139 z139 st139 hQ139
 rw [l139, y139, z139] at X139
 obtain ⟨h139, e139⟩ : ∃ z, T139.heap = z := ⟨_, rfl⟩
 rw [e139] at hQ139
 obtain ⟨rfl, N139q, K139, p139_0, p139_1, p139_2, p139_3, p139_4⟩ := hQ139
 have N139 := Fr.app N0 N139q
 have ne140 : a1 ≠ x1 := ne_exa Eb Esx1 (by decide)
 have ne141 : a1 ≠ d1 := Exa.neArv Eb Vb (wd hw 78 rfl)
 have ne142 : a1 ≠ t1 := Exa.neArv Eb Vsx1 (wd hw 78 rfl)
 have ne143 : d1 ≠ x1 := Ne.symm (Exa.neArv Esx1 Vb (wd hw 1 rfl))
 have sz139 : h0.size ≤ h139.size := K139.1
 have nz139 := Nat.le_trans Z0 sz139
 have lt139_0 := ltA p139_0.lt
 have lt139_4 := ltA p139_4.lt
 obtain ⟨fs, hr, hrun, hended, hW, hsame⟩ := X139.leave (v := some (.ref a1)) (fun h => by rw [Bd.returns] at h; cases h)
 refine ⟨_, _, pre0 _ ?_, hrun, hended, _, _, rfl, ?_, ⟨_, rfl⟩, hW, hsame.mono (by decide) (by decide)⟩
 ·show GO p e below s₁ (mkF m 0 #[.val (.ref a1), .val (.ref x1)] []) _
  refine XS.aloadN X0.here hx rfl (hb hby d18_0) rfl rfl ?_
  show GO p e below s₁ (mkF m 1 #[.val (.ref a1), .val (.ref x1)] [(.ref a1)]) _
  refine XS.aloadN X0.here hx rfl (hb hby d18_1) rfl rfl ?_
  show GO p e below s₁ (mkF m 2 #[.val (.ref a1), .val (.ref x1)] [(.ref x1), (.ref a1)]) _
  refine st139.trans ?_
  show GO p e below T139 (mkF m 5 #[.val (.ref a1), .val (.ref x1)] [(.ref a1)]) _
  refine XS.pop X139.here hx rfl (hb hby d18_5) rfl rfl ?_
  show GO p e below T139 (mkF m 6 #[.val (.ref a1), .val (.ref x1)] []) _
  refine XS.aloadN X139.here hx rfl (hb hby d18_6) rfl rfl ?_
  show GO p e below T139 (mkF m 7 #[.val (.ref a1), .val (.ref x1)] [(.ref a1)]) _
  exact retOut X139 hx Bd.returns rfl (Or.inr (Or.inr (Or.inr (Or.inr ⟨rfl, rfl, rfl⟩)))) (hb hby d18_7) hr
 ·show Qrm_sa_5_2_16 Z x1 t1 k1 xs0 xs1 xs2 xs3 xs4 a1 d1 kd xe0 xe1 z0 h0 n0 _ T139.heap _
  rw [e139]
  exact ⟨rfl, N139, ((Keep.refl h0 [a1, d1]).trans K139 (allS (P := fun x => x ∈ _ ∨ _) (Or.inl (List.mem_of_getElem? (i := 0) rfl)) (allS (P := fun x => x ∈ _ ∨ _) (Or.inl (List.mem_of_getElem? (i := 1) rfl)) all0))), p139_0, p139_1, p139_2, p139_3, p139_4⟩
def Qrm_gv (Z : State) (a1 : Addr) (d1 : Addr) (h0 : Heap) (n0 : Nat) (v : Option Value) (h : Heap) (L : List Loc) : Prop := v = some (.ref d1) ∧ Fr n0 L ∧ h = h0
theorem ef_rm_gv (m : MethodId) (x0 : Addr) : entryFrame m #[(.ref x0)] 1 = mkF m 0 #[.val (.ref x0)] [] := by first | rfl | (simp [entryFrame, mkF, argsToLocals, Value.category]; done)
theorem rm_gv (l : Launch) (Z : State) (a0 : Array Value) (hw : HW Z a0) (ws : List Jvm.Cond) (a1 : Addr) (d1 : Addr) (h0 : Heap) (n0 : Nat) (Z0 : n0 ≤ h0.size) (Fbv : Fld Z h0 a1 kS0 "value" "[B" (.ref d1)) :
  OwnM l Z h0 (⟨kS0, "getValue", "()[B"⟩ : MethodName) (Jvm.Cond.code (⟨kS0, "getValue", "()[B"⟩ : MethodName) jdk_68_method_64_code 1 (some (.array .byte)) :: ws) (RM 0 0 0 0) #[(.ref a1)] (Qrm_gv Z a1 d1 h0 n0) := by
 refine MetFree.of_bodySF (plainFor_of_name pn_6) hisR ?_
 intro p e s m args below meth c s₁ Bd hml0 hP hK
 obtain ⟨rfl, hZ, hh⟩ := hP
 have hx := Bd.exec
 have hby := Bd.bytes
 have hml : c.maxLocals = 1 := hml0
 have hown : s.vm.findClass kS0 = some m.cls := findClass_of_methodNamed Bd.named
 have hnm := (name_of_methodNamed Bd.named Bd.method).1
 have X0 : Stand p l e (RM 0 0 0 0) s m #[(.ref a1)] below meth c s₁ [] 0 0 := Stand.of_body Bd
 have e0 : s₁.heap = h0 := by rw [← hh, Bd.state]; rfl
 have N0 := Fr.nil n0
 have pre0 : ∀ t, GO p e below s₁ (mkF m 0 #[.val (.ref a1)] []) t → GO p e below s₁ (entryFrame m #[(.ref a1)] 1) t := fun t k => castTop (ef_rm_gv m a1) k
 have lt_Fbv := ltA Fbv.lt
 obtain ⟨T144, X144, e144, st144⟩ := getF X0 hx hZ hown (host := "") (Or.inl (wd hw 91 rfl)) Via.refl e0 Fbv (g := (mkF m 1 #[.val (.ref a1)] [(.ref a1)])) rfl rfl (hb hby d29_1)
 obtain ⟨fs, hr, hrun, hended, hW, hsame⟩ := X144.leave (v := some (.ref d1)) (fun h => by rw [Bd.returns] at h; cases h)
 refine ⟨_, _, pre0 _ ?_, hrun, hended, _, _, rfl, ?_, ⟨_, rfl⟩, hW, hsame.mono (by decide) (by decide)⟩
 ·show GO p e below s₁ (mkF m 0 #[.val (.ref a1)] []) _
  refine XS.aloadN X0.here hx rfl (hb hby d29_0) rfl rfl ?_
  show GO p e below s₁ (mkF m 1 #[.val (.ref a1)] [(.ref a1)]) _
  refine st144 _ ?_
  show GO p e below T144 (mkF m 4 #[.val (.ref a1)] [(.ref d1)]) _
  exact retOut X144 hx Bd.returns rfl (Or.inr (Or.inr (Or.inr (Or.inr ⟨rfl, rfl, rfl⟩)))) (hb hby d29_4) hr
 ·show Qrm_gv Z a1 d1 h0 n0 _ T144.heap _
  rw [e144]
  exact ⟨rfl, N0, rfl⟩
def Qrm_al (Z : State) (a1 : Addr) (c1 : Int32) (h0 : Heap) (n0 : Nat) (v : Option Value) (h : Heap) (L : List Loc) : Prop := v = some (.int c1) ∧ Fr n0 L ∧ h = h0
theorem ef_rm_al (m : MethodId) (x0 : Addr) : entryFrame m #[(.ref x0)] 1 = mkF m 0 #[.val (.ref x0)] [] := by first | rfl | (simp [entryFrame, mkF, argsToLocals, Value.category]; done)
theorem rm_al (l : Launch) (Z : State) (a0 : Array Value) (hw : HW Z a0) (ws : List Jvm.Cond) (a1 : Addr) (c1 : Int32) (h0 : Heap) (n0 : Nat) (Z0 : n0 ≤ h0.size) (Fbn : Fld Z h0 a1 kS0 "count" "I" (.int c1)) :
  OwnM l Z h0 (⟨kS0, "length", "()I"⟩ : MethodName) (Jvm.Cond.code (⟨kS0, "length", "()I"⟩ : MethodName) jdk_68_method_6_code 1 (some .int) :: ws) (RM 0 0 0 0) #[(.ref a1)] (Qrm_al Z a1 c1 h0 n0) := by
 refine MetFree.of_bodySF (plainFor_of_name pn_6) hisR ?_
 intro p e s m args below meth c s₁ Bd hml0 hP hK
 obtain ⟨rfl, hZ, hh⟩ := hP
 have hx := Bd.exec
 have hby := Bd.bytes
 have hml : c.maxLocals = 1 := hml0
 have hown : s.vm.findClass kS0 = some m.cls := findClass_of_methodNamed Bd.named
 have hnm := (name_of_methodNamed Bd.named Bd.method).1
 have X0 : Stand p l e (RM 0 0 0 0) s m #[(.ref a1)] below meth c s₁ [] 0 0 := Stand.of_body Bd
 have e0 : s₁.heap = h0 := by rw [← hh, Bd.state]; rfl
 have N0 := Fr.nil n0
 have pre0 : ∀ t, GO p e below s₁ (mkF m 0 #[.val (.ref a1)] []) t → GO p e below s₁ (entryFrame m #[(.ref a1)] 1) t := fun t k => castTop (ef_rm_al m a1) k
 have lt_Fbn := ltA Fbn.lt
 obtain ⟨T145, X145, e145, st145⟩ := getF X0 hx hZ hown (host := "") (Or.inl (wd hw 115 rfl)) Via.refl e0 Fbn (g := (mkF m 1 #[.val (.ref a1)] [(.ref a1)])) rfl rfl (hb hby d31_1)
 obtain ⟨fs, hr, hrun, hended, hW, hsame⟩ := X145.leave (v := some (.int c1)) (fun h => by rw [Bd.returns] at h; cases h)
 refine ⟨_, _, pre0 _ ?_, hrun, hended, _, _, rfl, ?_, ⟨_, rfl⟩, hW, hsame.mono (by decide) (by decide)⟩
 ·show GO p e below s₁ (mkF m 0 #[.val (.ref a1)] []) _
  refine XS.aloadN X0.here hx rfl (hb hby d31_0) rfl rfl ?_
  show GO p e below s₁ (mkF m 1 #[.val (.ref a1)] [(.ref a1)]) _
  refine st145 _ ?_
  show GO p e below T145 (mkF m 4 #[.val (.ref a1)] [(.int c1)]) _
  exact retI X145 hx Bd.returns (hb hby d31_4) hr
 ·show Qrm_al Z a1 c1 h0 n0 _ T145.heap _
  rw [e145]
  exact ⟨rfl, N0, rfl⟩
def Qrm_bl (Z : State) (a1 : Addr) (c1 : Int32) (h0 : Heap) (n0 : Nat) (v : Option Value) (h : Heap) (L : List Loc) : Prop := v = some (.int c1) ∧ Fr n0 L ∧ h = h0
theorem ef_rm_bl (m : MethodId) (x0 : Addr) : entryFrame m #[(.ref x0)] 1 = mkF m 0 #[.val (.ref x0)] [] := by first | rfl | (simp [entryFrame, mkF, argsToLocals, Value.category]; done)
theorem rm_bl (l : Launch) (Z : State) (a0 : Array Value) (hw : HW Z a0) (ws : List Jvm.Cond) (a1 : Addr) (c1 : Int32) (h0 : Heap) (n0 : Nat) (Z0 : n0 ≤ h0.size) (Eb : Exa Z h0 a1 kS2) (Fbn : Fld Z h0 a1 kS0 "count" "I" (.int c1)) :
  OwnM l Z h0 (⟨kS2, "length", "()I"⟩ : MethodName) (Jvm.Cond.code (⟨kS2, "length", "()I"⟩ : MethodName) jdk_67_method_93_code 1 (some .int) :: ws) (RM 1 0 0 12) #[(.ref a1)] (Qrm_bl Z a1 c1 h0 n0) := by
 refine MetFree.of_bodySF (plainFor_of_name pn_7) hisR ?_
 intro p e s m args below meth c s₁ Bd hml0 hP hK
 obtain ⟨rfl, hZ, hh⟩ := hP
 have hx := Bd.exec
 have hby := Bd.bytes
 have hml : c.maxLocals = 1 := hml0
 have hown : s.vm.findClass kS2 = some m.cls := findClass_of_methodNamed Bd.named
 have hnm := (name_of_methodNamed Bd.named Bd.method).1
 have X0 : Stand p l e (RM 1 0 0 12) s m #[(.ref a1)] below meth c s₁ [] 0 0 := Stand.of_body Bd
 have e0 : s₁.heap = h0 := by rw [← hh, Bd.state]; rfl
 have N0 := Fr.nil n0
 have pre0 : ∀ t, GO p e below s₁ (mkF m 0 #[.val (.ref a1)] []) t → GO p e below s₁ (entryFrame m #[(.ref a1)] 1) t := fun t k => castTop (ef_rm_bl m a1) k
 have lt_Eb := ltA Eb.lt
 have lt_Fbn := ltA Fbn.lt
 -- pc 1: AbstractStringBuilder.length by rm_al
 obtain ⟨_, _, ⟨T146, L146, k146, n146⟩, -, X146, ⟨Lc146, hQ146, l146, y146, z146⟩, st146⟩ := superBack X0 hx hZ (y := (⟨kS0, "length", "()I"⟩ : MethodName)) hown (wd hw 168 rfl) (own_sameM (y := (⟨kS0, "length", "()I"⟩ : MethodName)) (wd hw 164 rfl) (wd hw 120 rfl) rfl (by decide)) (wd hw 164 rfl) (wd hw 102 rfl) (by decide) (backOf (W := 0) (rm_al l Z a0 hw [] a1 c1 h0 n0 Z0 Fbn) hZ (wd hw 169 rfl) (wd hw 87 rfl) (by decide) (by decide)) e0 (Ins.self Eb) (g := (mkF m 1 #[.val (.ref a1)] [(.ref a1)])) rfl (by rw [hml]; rfl) (wd hw 169 rfl) (argsL := []) (rest := []) (lenOf pd_10 rfl) rfl (wz rfl) (hb hby d30_1) (fun _ _ => ⟨rfl, e0, (by decide : 0 + 0 ≤ _), (by decide : 0 + 0 ≤ _)⟩)
 dsimp only [Pt.U, Pt.locs, Pt.cells, Pt.slots] at X146 l146 y146 z146 st146 hQ146
 rw [l146, y146, z146] at X146
 obtain ⟨rfl, N146q, e146⟩ := hQ146
 have N146 := Fr.app N0 N146q
 obtain ⟨fs, hr, hrun, hended, hW, hsame⟩ := X146.leave (v := some (.int c1)) (fun h => by rw [Bd.returns] at h; cases h)
 refine ⟨_, _, pre0 _ ?_, hrun, hended, _, _, rfl, ?_, ⟨_, rfl⟩, hW, hsame.mono (by decide) (by decide)⟩
 ·show GO p e below s₁ (mkF m 0 #[.val (.ref a1)] []) _
  refine XS.aloadN X0.here hx rfl (hb hby d30_0) rfl rfl ?_
  show GO p e below s₁ (mkF m 1 #[.val (.ref a1)] [(.ref a1)]) _
  refine st146.trans ?_
  show GO p e below T146 (mkF m 4 #[.val (.ref a1)] [(.int c1)]) _
  exact retI X146 hx Bd.returns (hb hby d30_4) hr
 ·show Qrm_bl Z a1 c1 h0 n0 _ T146.heap _
  rw [e146]
  exact ⟨rfl, N146, rfl⟩
def Qrm_il (Z : State) (a1 : Addr) (z0 : Int32) (h0 : Heap) (n0 : Nat) (v : Option Value) (h : Heap) (L : List Loc) : Prop := v = some (.int 1) ∧ Fr n0 L ∧ h = h0
theorem ef_rm_il (m : MethodId) (x0 : Addr) : entryFrame m #[(.ref x0)] 1 = mkF m 0 #[.val (.ref x0)] [] := by first | rfl | (simp [entryFrame, mkF, argsToLocals, Value.category]; done)
theorem rm_il (l : Launch) (Z : State) (a0 : Array Value) (hw : HW Z a0) (ws : List Jvm.Cond) (a1 : Addr) (z0 : Int32) (h0 : Heap) (n0 : Nat) (Z0 : n0 ≤ h0.size) (O0 : Old Z n0 h0) (Fbc : Fld Z h0 a1 kS0 "coder" "B" (.int 0)) (SZc : Sta Z Z.heap kS1 "COMPACT_STRINGS" "Z" (.int z0)) (hz0 : ¬ z0 = 0) :
  OwnM l Z h0 (⟨kS0, "isLatin1", "()Z"⟩ : MethodName) (Jvm.Cond.code (⟨kS0, "isLatin1", "()Z"⟩ : MethodName) jdk_68_method_68_code 1 (some .boolean) :: ws) (RM 0 0 0 0) #[(.ref a1)] (Qrm_il Z a1 z0 h0 n0) := by
 refine MetFree.of_bodySF (plainFor_of_name pn_6) hisR ?_
 intro p e s m args below meth c s₁ Bd hml0 hP hK
 obtain ⟨rfl, hZ, hh⟩ := hP
 have hx := Bd.exec
 have hby := Bd.bytes
 have hml : c.maxLocals = 1 := hml0
 have hown : s.vm.findClass kS0 = some m.cls := findClass_of_methodNamed Bd.named
 have hnm := (name_of_methodNamed Bd.named Bd.method).1
 have X0 : Stand p l e (RM 0 0 0 0) s m #[(.ref a1)] below meth c s₁ [] 0 0 := Stand.of_body Bd
 have e0 : s₁.heap = h0 := by rw [← hh, Bd.state]; rfl
 have N0 := Fr.nil n0
 have pre0 : ∀ t, GO p e below s₁ (mkF m 0 #[.val (.ref a1)] []) t → GO p e below s₁ (entryFrame m #[(.ref a1)] 1) t := fun t k => castTop (ef_rm_il m a1) k
 have lt_Fbc := ltA Fbc.lt
 have S147 : Sta Z h0 kS1 "COMPACT_STRINGS" "Z" (.int z0) := SZc.ext O0.2
 obtain ⟨T148, X148, e148, st148⟩ := getS2 X0 hx hZ hown (host := "") (Or.inl (wd hw 90 rfl)) Via.refl e0 S147 (g := (mkF m 0 #[.val (.ref a1)] [])) rfl (hb hby d32_0)
 obtain ⟨T149, X149, e149, st149⟩ := getF X148 hx hZ hown (host := "") (Or.inl (wd hw 93 rfl)) Via.refl e148 Fbc (g := (mkF m 7 #[.val (.ref a1)] [(.ref a1)])) rfl rfl (hb hby d32_7)
 obtain ⟨fs, hr, hrun, hended, hW, hsame⟩ := X149.leave (v := some (.int 1)) (fun h => by rw [Bd.returns] at h; cases h)
 refine ⟨_, _, pre0 _ ?_, hrun, hended, _, _, rfl, ?_, ⟨_, rfl⟩, hW, hsame.mono (by decide) (by decide)⟩
 ·show GO p e below s₁ (mkF m 0 #[.val (.ref a1)] []) _
  refine st148 _ ?_
  show GO p e below T148 (mkF m 3 #[.val (.ref a1)] [(.int z0)]) _
  refine XS.ifNo X148.here hx rfl (hb hby d32_3) rfl ((if0 _ _).trans (feq ((by first | assumption | decide) : ¬ (z0 = (0 : Int32)))).1) ?_
  show GO p e below T148 (mkF m 6 #[.val (.ref a1)] []) _
  refine XS.aloadN X148.here hx rfl (hb hby d32_6) rfl rfl ?_
  show GO p e below T148 (mkF m 7 #[.val (.ref a1)] [(.ref a1)]) _
  refine st149 _ ?_
  show GO p e below T149 (mkF m 10 #[.val (.ref a1)] [(.int 0)]) _
  refine XS.ifNo X149.here hx rfl (hb hby d32_10) rfl ((if0 _ _).trans (teq (rfl : (0 : Int32) = (0 : Int32))).2) ?_
  show GO p e below T149 (mkF m 13 #[.val (.ref a1)] []) _
  refine XS.iconst X149.here hx rfl (hb hby d32_13) ?_
  show GO p e below T149 (mkF m 14 #[.val (.ref a1)] [(.int 1)]) _
  refine XS.goto X149.here hx rfl (pc0 := 14) (pc' := 18) rfl (hb hby d32_14) (by decide) (by decide) ?_
  show GO p e below T149 (mkF m 18 #[.val (.ref a1)] [(.int 1)]) _
  exact retN X149 hx (t := .boolean) Bd.returns (by simp) (hb hby d32_18) hr
 ·show Qrm_il Z a1 z0 h0 n0 _ T149.heap _
  rw [e149]
  exact ⟨rfl, N0, rfl⟩
def Qrm_cl7 (Z : State)  (h0 : Heap) (n0 : Nat) (v : Option Value) (h : Heap) (L : List Loc) : Prop := v = none ∧ Fr n0 L ∧ h = h0
theorem ef_rm_cl7 (m : MethodId) (x0 : Int32) (x1 : Int32) : entryFrame m #[(.int x0), (.int x1)] 2 = mkF m 0 #[.val (.int x0), .val (.int x1)] [] := by first | rfl | (simp [entryFrame, mkF, argsToLocals, Value.category]; done)
theorem rm_cl7 (l : Launch) (Z : State) (a0 : Array Value) (hw : HW Z a0) (ws : List Jvm.Cond)  (h0 : Heap) (n0 : Nat) (Z0 : n0 ≤ h0.size) :
  OwnM l Z h0 (⟨"java/util/Arrays", "checkLength", "(II)V"⟩ : MethodName) (Jvm.Cond.code (⟨"java/util/Arrays", "checkLength", "(II)V"⟩ : MethodName) jdk_65_method_131_code 2 none :: ws) (RM 0 0 0 0) #[(.int 0), (.int 7)] (Qrm_cl7 Z  h0 n0) := by
 refine MetFree.of_bodySF (plainFor_of_name pn_8) hisR ?_
 intro p e s m args below meth c s₁ Bd hml0 hP hK
 obtain ⟨rfl, hZ, hh⟩ := hP
 have hx := Bd.exec
 have hby := Bd.bytes
 have hml : c.maxLocals = 2 := hml0
 have hown : s.vm.findClass "java/util/Arrays" = some m.cls := findClass_of_methodNamed Bd.named
 have hnm := (name_of_methodNamed Bd.named Bd.method).1
 have X0 : Stand p l e (RM 0 0 0 0) s m #[(.int 0), (.int 7)] below meth c s₁ [] 0 0 := Stand.of_body Bd
 have e0 : s₁.heap = h0 := by rw [← hh, Bd.state]; rfl
 have N0 := Fr.nil n0
 have pre0 : ∀ t, GO p e below s₁ (mkF m 0 #[.val (.int 0), .val (.int 7)] []) t → GO p e below s₁ (entryFrame m #[(.int 0), (.int 7)] 2) t := fun t k => castTop (ef_rm_cl7 m ((0 : Int32)) ((7 : Int32))) k
 obtain ⟨fs, hr, hrun, hended, hW, hsame⟩ := X0.leave (v := none) (fun _ => rfl)
 refine ⟨_, _, pre0 _ ?_, hrun, hended, _, _, rfl, ?_, ⟨_, rfl⟩, hW, hsame.mono (by decide) (by decide)⟩
 ·show GO p e below s₁ (mkF m 0 #[.val (.int 0), .val (.int 7)] []) _
  refine XS.iloadN X0.here hx rfl (hb hby d35_0) rfl ?_
  show GO p e below s₁ (mkF m 1 #[.val (.int 0), .val (.int 7)] [(.int 7)]) _
  refine XS.iloadN X0.here hx rfl (hb hby d35_1) rfl ?_
  show GO p e below s₁ (mkF m 2 #[.val (.int 0), .val (.int 7)] [(.int 0), (.int 7)]) _
  refine XS.icmpYes X0.here hx rfl (pc0 := 2) (pc' := 37) rfl (hb hby d35_2) rfl (flt ((by decide) : ¬ ((7 : Int32) < (0 : Int32)))).2.1 (by decide) (by decide) ?_
  show GO p e below s₁ (mkF m 37 #[.val (.int 0), .val (.int 7)] []) _
  exact X0.returnOut hx Bd.returns (hb hby d35_37) hr
 ·show Qrm_cl7 Z  h0 n0 _ s₁.heap _
  rw [e0]
  exact ⟨rfl, N0, rfl⟩
def Qrm_mi_16_7 (Z : State)  (h0 : Heap) (n0 : Nat) (v : Option Value) (h : Heap) (L : List Loc) : Prop := v = some (.int 7) ∧ Fr n0 L ∧ h = h0
theorem ef_rm_mi_16_7 (m : MethodId) (x0 : Int32) (x1 : Int32) : entryFrame m #[(.int x0), (.int x1)] 2 = mkF m 0 #[.val (.int x0), .val (.int x1)] [] := by first | rfl | (simp [entryFrame, mkF, argsToLocals, Value.category]; done)
theorem rm_mi_16_7 (l : Launch) (Z : State) (a0 : Array Value) (hw : HW Z a0) (ws : List Jvm.Cond)  (h0 : Heap) (n0 : Nat) (Z0 : n0 ≤ h0.size) :
  OwnM l Z h0 (⟨"java/lang/Math", "min", "(II)I"⟩ : MethodName) (Jvm.Cond.code (⟨"java/lang/Math", "min", "(II)I"⟩ : MethodName) jdk_29_method_69_code 2 (some .int) :: ws) (RM 0 0 0 0) #[(.int 16), (.int 7)] (Qrm_mi_16_7 Z  h0 n0) := by
 refine MetFree.of_bodySF (Jvm.Free.JP.mathPlain rfl (by decide +kernel)) hisR ?_
 intro p e s m args below meth c s₁ Bd hml0 hP hK
 obtain ⟨rfl, hZ, hh⟩ := hP
 have hx := Bd.exec
 have hby := Bd.bytes
 have hml : c.maxLocals = 2 := hml0
 have hown : s.vm.findClass "java/lang/Math" = some m.cls := findClass_of_methodNamed Bd.named
 have hnm := (name_of_methodNamed Bd.named Bd.method).1
 have X0 : Stand p l e (RM 0 0 0 0) s m #[(.int 16), (.int 7)] below meth c s₁ [] 0 0 := Stand.of_body Bd
 have e0 : s₁.heap = h0 := by rw [← hh, Bd.state]; rfl
 have N0 := Fr.nil n0
 have pre0 : ∀ t, GO p e below s₁ (mkF m 0 #[.val (.int 16), .val (.int 7)] []) t → GO p e below s₁ (entryFrame m #[(.int 16), (.int 7)] 2) t := fun t k => castTop (ef_rm_mi_16_7 m ((16 : Int32)) ((7 : Int32))) k
 obtain ⟨fs, hr, hrun, hended, hW, hsame⟩ := X0.leave (v := some (.int 7)) (fun h => by rw [Bd.returns] at h; cases h)
 refine ⟨_, _, pre0 _ ?_, hrun, hended, _, _, rfl, ?_, ⟨_, rfl⟩, hW, hsame.mono (by decide) (by decide)⟩
 ·show GO p e below s₁ (mkF m 0 #[.val (.int 16), .val (.int 7)] []) _
  refine XS.iloadN X0.here hx rfl (hb hby d36_0) rfl ?_
  show GO p e below s₁ (mkF m 1 #[.val (.int 16), .val (.int 7)] [(.int 16)]) _
  refine XS.iloadN X0.here hx rfl (hb hby d36_1) rfl ?_
  show GO p e below s₁ (mkF m 2 #[.val (.int 16), .val (.int 7)] [(.int 7), (.int 16)]) _
  refine XS.icmpYes X0.here hx rfl (pc0 := 2) (pc' := 9) rfl (hb hby d36_2) rfl (tlt ((by decide) : (7 : Int32) < (16 : Int32))).2.2.1 (by decide) (by decide) ?_
  show GO p e below s₁ (mkF m 9 #[.val (.int 16), .val (.int 7)] []) _
  refine XS.iloadN X0.here hx rfl (hb hby d36_9) rfl ?_
  show GO p e below s₁ (mkF m 10 #[.val (.int 16), .val (.int 7)] [(.int 7)]) _
  exact retI X0 hx Bd.returns (hb hby d36_10) hr
 ·show Qrm_mi_16_7 Z  h0 n0 _ s₁.heap _
  rw [e0]
  exact ⟨rfl, N0, rfl⟩
def Qrm_cb_7_16 (Z : State) (d1 : Addr) (kd : ClassId) (xe0 : Int32) (xe1 : Int32) (xe2 : Int32) (xe3 : Int32) (xe4 : Int32) (xe5 : Int32) (xe6 : Int32) (h0 : Heap) (n0 : Nat) (v : Option Value) (h : Heap) (L : List Loc) : Prop := ∃ t : Addr, ∃ k : ClassId, v = some (.ref t) ∧ Fr n0 L ∧ Keep h0 h [] ∧ Exa Z h t "[B" ∧ Arv Z h t k .byte (7 : Int32) [(.int xe0), (.int xe1), (.int xe2), (.int xe3), (.int xe4), (.int xe5), (.int xe6)] (.int 0) ∧ h0.size ≤ t
theorem ef_rm_cb_7_16 (m : MethodId) (x0 : Addr) (x1 : Int32) (x2 : Int32) : entryFrame m #[(.ref x0), (.int x1), (.int x2)] 5 = mkF m 0 (la7 x0 x1 x2) [] := by first | rfl | (simp [entryFrame, mkF, argsToLocals, Value.category]; done)
theorem rm_cb_7_16 (l : Launch) (Z : State) (a0 : Array Value) (hw : HW Z a0) (ws : List Jvm.Cond) (d1 : Addr) (kd : ClassId) (xe0 : Int32) (xe1 : Int32) (xe2 : Int32) (xe3 : Int32) (xe4 : Int32) (xe5 : Int32) (xe6 : Int32) (h0 : Heap) (n0 : Nat) (Z0 : n0 ≤ h0.size) (Vd : Arv Z h0 d1 kd .byte (16 : Int32) [(.int xe0), (.int xe1), (.int xe2), (.int xe3), (.int xe4), (.int xe5), (.int xe6), (.int 0), (.int 0), (.int 0), (.int 0), (.int 0), (.int 0), (.int 0), (.int 0), (.int 0)] (.int 0)) :
  OwnM l Z h0 (⟨"java/util/Arrays", "copyOfRangeByte", "([BII)[B"⟩ : MethodName) (Jvm.Cond.code (⟨"java/util/Arrays", "copyOfRangeByte", "([BII)[B"⟩ : MethodName) jdk_65_method_133_code 5 (some (.array .byte)) :: ws) (RM 1 1 7 18) #[(.ref d1), (.int 0), (.int 7)] (Qrm_cb_7_16 Z d1 kd xe0 xe1 xe2 xe3 xe4 xe5 xe6 h0 n0) := by
 refine MetFree.of_bodySF (plainFor_of_name pn_8) hisR ?_
 intro p e s m args below meth c s₁ Bd hml0 hP hK
 obtain ⟨rfl, hZ, hh⟩ := hP
 have hx := Bd.exec
 have hby := Bd.bytes
 have hml : c.maxLocals = 5 := hml0
 have hown : s.vm.findClass "java/util/Arrays" = some m.cls := findClass_of_methodNamed Bd.named
 have hnm := (name_of_methodNamed Bd.named Bd.method).1
 have X0 : Stand p l e (RM 1 1 7 18) s m #[(.ref d1), (.int 0), (.int 7)] below meth c s₁ [] 0 0 := Stand.of_body Bd
 have e0 : s₁.heap = h0 := by rw [← hh, Bd.state]; rfl
 have N0 := Fr.nil n0
 have pre0 : ∀ t, GO p e below s₁ (mkF m 0 (la7 d1 (0 : Int32) (7 : Int32)) []) t → GO p e below s₁ (entryFrame m #[(.ref d1), (.int 0), (.int 7)] 5) t := fun t k => castTop (ef_rm_cb_7_16 m d1 ((0 : Int32)) ((7 : Int32))) k
 have lt_Vd := ltA Vd.lt
 -- pc 2: Arrays.checkLength by rm_cl7
 obtain ⟨_, _, ⟨T150, L150, k150, n150⟩, -, X150, ⟨Lc150, hQ150, l150, y150, z150⟩, st150⟩ := Jvm.LawKit.callS X0 hx (y := (⟨"java/util/Arrays", "checkLength", "(II)V"⟩ : MethodName)) hown (mvT hZ (wd hw 182 rfl)) (mvT hZ (wd hw 183 rfl)) (mvT hZ (wd hw 177 rfl)) (mvT hZ (wd hw 184 rfl)) (by decide) (backOf (W := 0) (rm_cl7 l Z a0 hw []  h0 n0 Z0) hZ (wd hw 184 rfl) (wd hw 177 rfl) (by decide) (by decide)) (g := (mkF m 2 (la7 d1 (0 : Int32) (7 : Int32)) [(.int 7), (.int 0)])) rfl (by rw [hml]; rfl) (argsL := [(.int 0), (.int 7)]) (rest := []) (lenOf pd_13 rfl) rfl (wz rfl) (hb hby d34_2) (fun _ _ => ⟨rfl, e0, (by decide : 0 + 0 ≤ _), (by decide : 0 + 0 ≤ _)⟩)
 dsimp only [Pt.U, Pt.locs, Pt.cells, Pt.slots] at X150 l150 y150 z150 st150 hQ150
 rw [l150, y150, z150] at X150
 obtain ⟨rfl, N150q, e150⟩ := hQ150
 have N150 := Fr.app N0 N150q
 obtain ⟨T151, h151, k151, X151, e151, E151, A151, Q151, st151⟩ := newPE (ad := "[B") X150 hx hZ (wd hw 19 rfl) e150 (g := (mkF m 10 (la8 d1 (0 : Int32) (7 : Int32) (7 : Int32)) [(.int 7)])) rfl (hb hby d34_10) rfl (by decide) (cap := 7) (by decide) (by decide) (by decide) (by decide) (by decide)
 obtain ⟨b151, g151⟩ : ∃ z, z = h0.size := ⟨_, rfl⟩
 rw [← g151] at A151 st151 Q151
 have sz151 : h0.size ≤ h151.size := E151.1
 have nz151 := Nat.le_trans Z0 sz151
 have lt151 := ltA A151.lt
 have V151 : Arv Z h151 b151 k151 .byte (7 : Int32) [(.int 0), (.int 0), (.int 0), (.int 0), (.int 0), (.int 0), (.int 0)] (.int 0) := (Arv.new A151 (by decide)).pad (pad_rep [] (.int 0) 7)
 have f152 : Arv Z h151 d1 kd .byte (16 : Int32) [(.int xe0), (.int xe1), (.int xe2), (.int xe3), (.int xe4), (.int xe5), (.int xe6), (.int 0), (.int 0), (.int 0), (.int 0), (.int 0), (.int 0), (.int 0), (.int 0), (.int 0)] (.int 0) := (Vd.ext E151)
 obtain ⟨cl153, Ar153, -, S153, M153, -, -⟩ := id f152
 -- pc 24: Math.min by rm_mi_16_7
 obtain ⟨_, _, ⟨T154, L154, k154, n154⟩, -, X154, ⟨Lc154, hQ154, l154, y154, z154⟩, st154⟩ := Jvm.LawKit.callS X151 hx (y := (⟨"java/lang/Math", "min", "(II)I"⟩ : MethodName)) hown (mvT hZ (wd hw 185 rfl)) (mvT hZ (wd hw 186 rfl)) (mvT hZ (wd hw 187 rfl)) (mvT hZ (wd hw 188 rfl)) (by decide) (backOf (W := 4) (rm_mi_16_7 l Z a0 hw []  h151 n0 nz151) hZ (wd hw 188 rfl) (wd hw 187 rfl) (by decide) (by decide)) (g := (mkF m 24 (la9 d1 (0 : Int32) (7 : Int32) (7 : Int32) b151) [(.int 7), (.int 16), (.int 0), (.ref b151), (.int 0), (.ref d1)])) rfl (by rw [hml]; rfl) (argsL := [(.int 16), (.int 7)]) (rest := [(.int 0), (.ref b151), (.int 0), (.ref d1)]) (lenOf pd_14 rfl) rfl (wz rfl) (hb hby d34_24) (fun _ _ => ⟨rfl, e151, (by decide : 1 + 0 ≤ _), (by decide : 7 + 0 ≤ _)⟩)
 dsimp only [Pt.U, Pt.locs, Pt.cells, Pt.slots] at X154 l154 y154 z154 st154 hQ154
 rw [l154, y154, z154] at X154
 obtain ⟨rfl, N154q, e154⟩ := hQ154
 have N154 := Fr.app N150 N154q
 obtain ⟨T155, h155, L155, X155, e155, N155, K155, A155, st155⟩ := cpA X154 hx hZ hown (wd hw 189 rfl) (wd hw 141 rfl) (wd hw 139 rfl) (wd hw 140 rfl) e154 f152 V151 (us := [(.int xe0), (.int xe1), (.int xe2), (.int xe3), (.int xe4), (.int xe5), (.int xe6)]) (Or.inl ⟨rfl, rfl⟩) (by decide) (by decide) (by decide) (by decide) (by decide) rfl (Nat.le_of_ble_eq_true rfl) N154 (by omega) (g := (mkF m 27 (la9 d1 (0 : Int32) (7 : Int32) (7 : Int32) b151) [(.int 7), (.int 0), (.ref b151), (.int 0), (.ref d1)])) rfl (by rw [hml]; rfl) rfl (hb hby d34_27) (by decide) (W := 0) (wz rfl) (by decide)
 have sz155 : h151.size ≤ h155.size := K155.1
 have nz155 := Nat.le_trans nz151 sz155
 have V155 : Arv Z h155 b151 k151 .byte (7 : Int32) [(.int xe0), (.int xe1), (.int xe2), (.int xe3), (.int xe4), (.int xe5), (.int xe6)] (.int 0) := A155
 have f156 : Exa Z h155 b151 "[B" := (Q151.keep K155)
 obtain ⟨fs, hr, hrun, hended, hW, hsame⟩ := X155.leave (v := some (.ref b151)) (fun h => by rw [Bd.returns] at h; cases h)
 refine ⟨_, _, pre0 _ ?_, hrun, hended, _, _, rfl, ?_, ⟨_, rfl⟩, hW, hsame.mono (by decide) (by decide)⟩
 ·show GO p e below s₁ (mkF m 0 (la7 d1 (0 : Int32) (7 : Int32)) []) _
  refine XS.iloadN X0.here hx rfl (hb hby d34_0) rfl ?_
  show GO p e below s₁ (mkF m 1 (la7 d1 (0 : Int32) (7 : Int32)) [(.int 0)]) _
  refine XS.iloadN X0.here hx rfl (hb hby d34_1) rfl ?_
  show GO p e below s₁ (mkF m 2 (la7 d1 (0 : Int32) (7 : Int32)) [(.int 7), (.int 0)]) _
  refine st150 _ ?_
  show GO p e below T150 (mkF m 5 (la7 d1 (0 : Int32) (7 : Int32)) []) _
  refine XS.iloadN X150.here hx rfl (hb hby d34_5) rfl ?_
  show GO p e below T150 (mkF m 6 (la7 d1 (0 : Int32) (7 : Int32)) [(.int 7)]) _
  refine XS.iloadN X150.here hx rfl (hb hby d34_6) rfl ?_
  show GO p e below T150 (mkF m 7 (la7 d1 (0 : Int32) (7 : Int32)) [(.int 0), (.int 7)]) _
  refine XS.isub X150.here hx rfl (hb hby d34_7) rfl ?_
  rw [show ((7 : Int32) - (0 : Int32)) = (7 : Int32) from by decide]
  show GO p e below T150 (mkF m 8 (la7 d1 (0 : Int32) (7 : Int32)) [(.int 7)]) _
  refine XS.istoreN X150.here hx rfl (hb hby d34_8) rfl (l' := (la8 d1 (0 : Int32) (7 : Int32) (7 : Int32))) rfl ?_
  show GO p e below T150 (mkF m 9 (la8 d1 (0 : Int32) (7 : Int32) (7 : Int32)) []) _
  refine XS.iloadN X150.here hx rfl (hb hby d34_9) rfl ?_
  show GO p e below T150 (mkF m 10 (la8 d1 (0 : Int32) (7 : Int32) (7 : Int32)) [(.int 7)]) _
  refine st151 _ ?_
  show GO p e below T151 (mkF m 12 (la8 d1 (0 : Int32) (7 : Int32) (7 : Int32)) [(.ref b151)]) _
  refine XS.astore X151.here hx rfl (hb hby d34_12) rfl rfl (l' := (la9 d1 (0 : Int32) (7 : Int32) (7 : Int32) b151)) rfl ?_
  show GO p e below T151 (mkF m 14 (la9 d1 (0 : Int32) (7 : Int32) (7 : Int32) b151) []) _
  refine XS.aloadN X151.here hx rfl (hb hby d34_14) rfl rfl ?_
  show GO p e below T151 (mkF m 15 (la9 d1 (0 : Int32) (7 : Int32) (7 : Int32) b151) [(.ref d1)]) _
  refine XS.iloadN X151.here hx rfl (hb hby d34_15) rfl ?_
  show GO p e below T151 (mkF m 16 (la9 d1 (0 : Int32) (7 : Int32) (7 : Int32) b151) [(.int 0), (.ref d1)]) _
  refine XS.aload X151.here hx rfl (hb hby d34_16) rfl rfl ?_
  show GO p e below T151 (mkF m 18 (la9 d1 (0 : Int32) (7 : Int32) (7 : Int32) b151) [(.ref b151), (.int 0), (.ref d1)]) _
  refine XS.iconst X151.here hx rfl (hb hby d34_18) ?_
  show GO p e below T151 (mkF m 19 (la9 d1 (0 : Int32) (7 : Int32) (7 : Int32) b151) [(.int 0), (.ref b151), (.int 0), (.ref d1)]) _
  refine XS.aloadN X151.here hx rfl (hb hby d34_19) rfl rfl ?_
  show GO p e below T151 (mkF m 20 (la9 d1 (0 : Int32) (7 : Int32) (7 : Int32) b151) [(.ref d1), (.int 0), (.ref b151), (.int 0), (.ref d1)]) _
  refine X151.arraylength hx (by rw [e151]; exact Ar153.1) (State.isArrayOf_alike hZ.alike Ar153.2.1) (g := (mkF m 20 (la9 d1 (0 : Int32) (7 : Int32) (7 : Int32) b151) [(.ref d1), (.int 0), (.ref b151), (.int 0), (.ref d1)])) rfl rfl (hb hby d34_20) _ ?_
  rw [len_of S153 M153]
  show GO p e below T151 (mkF m 21 (la9 d1 (0 : Int32) (7 : Int32) (7 : Int32) b151) [(.int 16), (.int 0), (.ref b151), (.int 0), (.ref d1)]) _
  refine XS.iloadN X151.here hx rfl (hb hby d34_21) rfl ?_
  show GO p e below T151 (mkF m 22 (la9 d1 (0 : Int32) (7 : Int32) (7 : Int32) b151) [(.int 0), (.int 16), (.int 0), (.ref b151), (.int 0), (.ref d1)]) _
  refine XS.isub X151.here hx rfl (hb hby d34_22) rfl ?_
  rw [show ((16 : Int32) - (0 : Int32)) = (16 : Int32) from by decide]
  show GO p e below T151 (mkF m 23 (la9 d1 (0 : Int32) (7 : Int32) (7 : Int32) b151) [(.int 16), (.int 0), (.ref b151), (.int 0), (.ref d1)]) _
  refine XS.iloadN X151.here hx rfl (hb hby d34_23) rfl ?_
  show GO p e below T151 (mkF m 24 (la9 d1 (0 : Int32) (7 : Int32) (7 : Int32) b151) [(.int 7), (.int 16), (.int 0), (.ref b151), (.int 0), (.ref d1)]) _
  refine st154 _ ?_
  show GO p e below T154 (mkF m 27 (la9 d1 (0 : Int32) (7 : Int32) (7 : Int32) b151) [(.int 7), (.int 0), (.ref b151), (.int 0), (.ref d1)]) _
  refine st155 _ ?_
  show GO p e below T155 (mkF m 30 (la9 d1 (0 : Int32) (7 : Int32) (7 : Int32) b151) []) _
  refine XS.aload X155.here hx rfl (hb hby d34_30) rfl rfl ?_
  show GO p e below T155 (mkF m 32 (la9 d1 (0 : Int32) (7 : Int32) (7 : Int32) b151) [(.ref b151)]) _
  exact retOut X155 hx Bd.returns rfl (Or.inr (Or.inr (Or.inr (Or.inr ⟨rfl, rfl, rfl⟩)))) (hb hby d34_32) hr
 ·show Qrm_cb_7_16 Z d1 kd xe0 xe1 xe2 xe3 xe4 xe5 xe6 h0 n0 _ T155.heap _
  rw [e155]
  exact ⟨b151, k151, rfl, N155, (((Keep.refl h0 []).ext E151).trans K155 (allS (P := fun x => x ∈ _ ∨ _) (Or.inr (by omega)) all0)), f156, V155, (by omega)⟩
def Qrm_cr_7_16 (Z : State) (d1 : Addr) (kd : ClassId) (xe0 : Int32) (xe1 : Int32) (xe2 : Int32) (xe3 : Int32) (xe4 : Int32) (xe5 : Int32) (xe6 : Int32) (h0 : Heap) (n0 : Nat) (v : Option Value) (h : Heap) (L : List Loc) : Prop := ∃ t : Addr, ∃ k : ClassId, v = some (.ref t) ∧ Fr n0 L ∧ Keep h0 h [] ∧ Exa Z h t "[B" ∧ Arv Z h t k .byte (7 : Int32) [(.int xe0), (.int xe1), (.int xe2), (.int xe3), (.int xe4), (.int xe5), (.int xe6)] (.int 0) ∧ h0.size ≤ t
theorem ef_rm_cr_7_16 (m : MethodId) (x0 : Addr) (x1 : Int32) (x2 : Int32) : entryFrame m #[(.ref x0), (.int x1), (.int x2)] 3 = mkF m 0 (la3 x0 x1 x2) [] := by first | rfl | (simp [entryFrame, mkF, argsToLocals, Value.category]; done)
theorem rm_cr_7_16 (l : Launch) (Z : State) (a0 : Array Value) (hw : HW Z a0) (ws : List Jvm.Cond) (d1 : Addr) (kd : ClassId) (xe0 : Int32) (xe1 : Int32) (xe2 : Int32) (xe3 : Int32) (xe4 : Int32) (xe5 : Int32) (xe6 : Int32) (h0 : Heap) (n0 : Nat) (Z0 : n0 ≤ h0.size) (Vd : Arv Z h0 d1 kd .byte (16 : Int32) [(.int xe0), (.int xe1), (.int xe2), (.int xe3), (.int xe4), (.int xe5), (.int xe6), (.int 0), (.int 0), (.int 0), (.int 0), (.int 0), (.int 0), (.int 0), (.int 0), (.int 0)] (.int 0)) :
  OwnM l Z h0 (⟨"java/util/Arrays", "copyOfRange", "([BII)[B"⟩ : MethodName) (Jvm.Cond.code (⟨"java/util/Arrays", "copyOfRange", "([BII)[B"⟩ : MethodName) jdk_65_method_132_code 3 (some (.array .byte)) :: ws) (RM 2 1 7 34) #[(.ref d1), (.int 0), (.int 7)] (Qrm_cr_7_16 Z d1 kd xe0 xe1 xe2 xe3 xe4 xe5 xe6 h0 n0) := by
 refine MetFree.of_bodySF (plainFor_of_name pn_8) hisR ?_
 intro p e s m args below meth c s₁ Bd hml0 hP hK
 obtain ⟨rfl, hZ, hh⟩ := hP
 have hx := Bd.exec
 have hby := Bd.bytes
 have hml : c.maxLocals = 3 := hml0
 have hown : s.vm.findClass "java/util/Arrays" = some m.cls := findClass_of_methodNamed Bd.named
 have hnm := (name_of_methodNamed Bd.named Bd.method).1
 have X0 : Stand p l e (RM 2 1 7 34) s m #[(.ref d1), (.int 0), (.int 7)] below meth c s₁ [] 0 0 := Stand.of_body Bd
 have e0 : s₁.heap = h0 := by rw [← hh, Bd.state]; rfl
 have N0 := Fr.nil n0
 have pre0 : ∀ t, GO p e below s₁ (mkF m 0 (la3 d1 (0 : Int32) (7 : Int32)) []) t → GO p e below s₁ (entryFrame m #[(.ref d1), (.int 0), (.int 7)] 3) t := fun t k => castTop (ef_rm_cr_7_16 m d1 ((0 : Int32)) ((7 : Int32))) k
 have lt_Vd := ltA Vd.lt
 obtain ⟨cl157, Ar157, -, S157, M157, -, -⟩ := id Vd
 -- pc 13: Arrays.copyOfRangeByte by rm_cb_7_16
 obtain ⟨_, _, ⟨T158, L158, k158, n158⟩, -, X158, ⟨Lc158, hQ158, l158, y158, z158⟩, st158⟩ := Jvm.LawKit.callS X0 hx (y := (⟨"java/util/Arrays", "copyOfRangeByte", "([BII)[B"⟩ : MethodName)) hown (mvT hZ (wd hw 179 rfl)) (mvT hZ (wd hw 180 rfl)) (mvT hZ (wd hw 177 rfl)) (mvT hZ (wd hw 181 rfl)) (by decide) (backOf (W := 0) (rm_cb_7_16 l Z a0 hw [] d1 kd xe0 xe1 xe2 xe3 xe4 xe5 xe6 h0 n0 Z0 Vd) hZ (wd hw 181 rfl) (wd hw 177 rfl) (by decide) (by decide)) (g := (mkF m 13 (la3 d1 (0 : Int32) (7 : Int32)) [(.int 7), (.int 0), (.ref d1)])) rfl (by rw [hml]; rfl) (argsL := [(.ref d1), (.int 0), (.int 7)]) (rest := []) (lenOf pd_15 rfl) rfl (wz rfl) (hb hby d33_13) (fun _ _ => ⟨rfl, e0, (by decide : 0 + 1 ≤ _), (by decide : 0 + 7 ≤ _)⟩)
 dsimp only [Pt.U, Pt.locs, Pt.cells, Pt.slots] at X158 l158 y158 z158 st158 hQ158
 rw [l158, y158, z158] at X158
 obtain ⟨h158, e158⟩ : ∃ z, T158.heap = z := ⟨_, rfl⟩
 rw [e158] at hQ158
 obtain ⟨t_158, k_158, rfl, N158q, K158, p158_0, p158_1, r158_0⟩ := hQ158
 have N158 := Fr.app N0 N158q
 have sz158 : h0.size ≤ h158.size := K158.1
 have nz158 := Nat.le_trans Z0 sz158
 have lt158_0 := ltA p158_0.lt
 have lt158_1 := ltA p158_1.lt
 obtain ⟨fs, hr, hrun, hended, hW, hsame⟩ := X158.leave (v := some (.ref t_158)) (fun h => by rw [Bd.returns] at h; cases h)
 refine ⟨_, _, pre0 _ ?_, hrun, hended, _, _, rfl, ?_, ⟨_, rfl⟩, hW, hsame.mono (by decide) (by decide)⟩
 ·show GO p e below s₁ (mkF m 0 (la3 d1 (0 : Int32) (7 : Int32)) []) _
  refine XS.iloadN X0.here hx rfl (hb hby d33_0) rfl ?_
  show GO p e below s₁ (mkF m 1 (la3 d1 (0 : Int32) (7 : Int32)) [(.int 0)]) _
  refine XS.ifNo X0.here hx rfl (hb hby d33_1) rfl ((if0 _ _).trans (teq (rfl : (0 : Int32) = (0 : Int32))).2) ?_
  show GO p e below s₁ (mkF m 4 (la3 d1 (0 : Int32) (7 : Int32)) []) _
  refine XS.iloadN X0.here hx rfl (hb hby d33_4) rfl ?_
  show GO p e below s₁ (mkF m 5 (la3 d1 (0 : Int32) (7 : Int32)) [(.int 7)]) _
  refine XS.aloadN X0.here hx rfl (hb hby d33_5) rfl rfl ?_
  show GO p e below s₁ (mkF m 6 (la3 d1 (0 : Int32) (7 : Int32)) [(.ref d1), (.int 7)]) _
  refine X0.arraylength hx (by rw [e0]; exact Ar157.1) (State.isArrayOf_alike hZ.alike Ar157.2.1) (g := (mkF m 6 (la3 d1 (0 : Int32) (7 : Int32)) [(.ref d1), (.int 7)])) rfl rfl (hb hby d33_6) _ ?_
  rw [len_of S157 M157]
  show GO p e below s₁ (mkF m 7 (la3 d1 (0 : Int32) (7 : Int32)) [(.int 16), (.int 7)]) _
  refine XS.icmpNo X0.here hx rfl (hb hby d33_7) rfl (feq ((by decide) : ¬ ((7 : Int32) = (16 : Int32)))).1 ?_
  show GO p e below s₁ (mkF m 10 (la3 d1 (0 : Int32) (7 : Int32)) []) _
  refine XS.aloadN X0.here hx rfl (hb hby d33_10) rfl rfl ?_
  show GO p e below s₁ (mkF m 11 (la3 d1 (0 : Int32) (7 : Int32)) [(.ref d1)]) _
  refine XS.iloadN X0.here hx rfl (hb hby d33_11) rfl ?_
  show GO p e below s₁ (mkF m 12 (la3 d1 (0 : Int32) (7 : Int32)) [(.int 0), (.ref d1)]) _
  refine XS.iloadN X0.here hx rfl (hb hby d33_12) rfl ?_
  show GO p e below s₁ (mkF m 13 (la3 d1 (0 : Int32) (7 : Int32)) [(.int 7), (.int 0), (.ref d1)]) _
  refine st158 _ ?_
  show GO p e below T158 (mkF m 16 (la3 d1 (0 : Int32) (7 : Int32)) [(.ref t_158)]) _
  exact retOut X158 hx Bd.returns rfl (Or.inr (Or.inr (Or.inr (Or.inr ⟨rfl, rfl, rfl⟩)))) (hb hby d33_16) hr
 ·show Qrm_cr_7_16 Z d1 kd xe0 xe1 xe2 xe3 xe4 xe5 xe6 h0 n0 _ T158.heap _
  rw [e158]
  exact ⟨t_158, k_158, rfl, N158, ((Keep.refl h0 []).trans K158 all0), p158_0, p158_1, r158_0⟩
def Qrm_si2_7_16 (Z : State) (x1 : Addr) (u1 : Value) (u2 : Value) (a1 : Addr) (d1 : Addr) (kd : ClassId) (xe0 : Int32) (xe1 : Int32) (xe2 : Int32) (xe3 : Int32) (xe4 : Int32) (xe5 : Int32) (xe6 : Int32) (z0 : Int32) (h0 : Heap) (n0 : Nat) (v : Option Value) (h : Heap) (L : List Loc) : Prop := ∃ t : Addr, ∃ k : ClassId, v = none ∧ Fr n0 L ∧ Keep h0 h [x1] ∧ Exa Z h x1 kS1 ∧ Fld Z h x1 kS1 "coder" "B" (.int 0) ∧ Fld Z h x1 kS1 "value" "[B" (.ref t) ∧ Exa Z h t "[B" ∧ Arv Z h t k .byte (7 : Int32) [(.int xe0), (.int xe1), (.int xe2), (.int xe3), (.int xe4), (.int xe5), (.int xe6)] (.int 0) ∧ h0.size ≤ t
theorem ef_rm_si2_7_16 (m : MethodId) (x0 : Addr) (x1 : Addr) : entryFrame m #[(.ref x0), (.ref x1), .null] 5 = mkF m 0 (la10 x0 x1) [] := by first | rfl | (simp [entryFrame, mkF, argsToLocals, Value.category]; done)
theorem rm_si2_7_16 (l : Launch) (Z : State) (a0 : Array Value) (hw : HW Z a0) (ws : List Jvm.Cond) (x1 : Addr) (u1 : Value) (u2 : Value) (a1 : Addr) (d1 : Addr) (kd : ClassId) (xe0 : Int32) (xe1 : Int32) (xe2 : Int32) (xe3 : Int32) (xe4 : Int32) (xe5 : Int32) (xe6 : Int32) (z0 : Int32) (h0 : Heap) (n0 : Nat) (Z0 : n0 ≤ h0.size) (O0 : Old Z n0 h0) (Es : Exa Z h0 x1 kS1) (Fv1 : Fld Z h0 x1 kS1 "value" "[B" u1) (Fc1 : Fld Z h0 x1 kS1 "coder" "B" u2) (Eb : Exa Z h0 a1 kS2) (Fbv : Fld Z h0 a1 kS0 "value" "[B" (.ref d1)) (Fbc : Fld Z h0 a1 kS0 "coder" "B" (.int 0)) (Fbn : Fld Z h0 a1 kS0 "count" "I" (.int 7)) (Vb : Arv Z h0 d1 kd .byte (16 : Int32) [(.int xe0), (.int xe1), (.int xe2), (.int xe3), (.int xe4), (.int xe5), (.int xe6), (.int 0), (.int 0), (.int 0), (.int 0), (.int 0), (.int 0), (.int 0), (.int 0), (.int 0)] (.int 0)) (SZc : Sta Z Z.heap kS1 "COMPACT_STRINGS" "Z" (.int z0)) (hz0 : ¬ z0 = 0) (gx : n0 ≤ x1) :
  OwnM l Z h0 (⟨kS1, "<init>", "(Ljava/lang/AbstractStringBuilder;Ljava/lang/Void;)V"⟩ : MethodName) (Jvm.Cond.code (⟨kS1, "<init>", "(Ljava/lang/AbstractStringBuilder;Ljava/lang/Void;)V"⟩ : MethodName) jdk_42_method_150_code 5 none :: ws) (RM 3 1 7 49) #[(.ref x1), (.ref a1), .null] (Qrm_si2_7_16 Z x1 u1 u2 a1 d1 kd xe0 xe1 xe2 xe3 xe4 xe5 xe6 z0 h0 n0) := by
 refine MetFree.of_bodySF (plainFor_of_name pn_1) hisR ?_
 intro p e s m args below meth c s₁ Bd hml0 hP hK
 obtain ⟨rfl, hZ, hh⟩ := hP
 have hx := Bd.exec
 have hby := Bd.bytes
 have hml : c.maxLocals = 5 := hml0
 have hown : s.vm.findClass kS1 = some m.cls := findClass_of_methodNamed Bd.named
 have hnm := (name_of_methodNamed Bd.named Bd.method).1
 have X0 : Stand p l e (RM 3 1 7 49) s m #[(.ref x1), (.ref a1), .null] below meth c s₁ [] 0 0 := Stand.of_body Bd
 have e0 : s₁.heap = h0 := by rw [← hh, Bd.state]; rfl
 have N0 := Fr.nil n0
 have pre0 : ∀ t, GO p e below s₁ (mkF m 0 (la10 x1 a1) []) t → GO p e below s₁ (entryFrame m #[(.ref x1), (.ref a1), .null] 5) t := fun t k => castTop (ef_rm_si2_7_16 m x1 a1) k
 have lt_Es := ltA Es.lt
 have lt_Fv1 := ltA Fv1.lt
 have lt_Fc1 := ltA Fc1.lt
 have lt_Eb := ltA Eb.lt
 have lt_Fbv := ltA Fbv.lt
 have lt_Fbc := ltA Fbc.lt
 have lt_Fbn := ltA Fbn.lt
 have lt_Vb := ltA Vb.lt
 obtain ⟨T159, X159, e159, st159⟩ := initO X0 hx hZ hown (wd hw 11 rfl) (wd hw 12 rfl) (wd hw 13 rfl) e0 (g := (mkF m 1 (la10 x1 a1) [(.ref x1)])) rfl (by rw [hml]; rfl) rfl (hb hby d28_1) (by decide) (W := 0) (wz rfl) (by decide)
 -- pc 5: AbstractStringBuilder.getValue by rm_gv
 obtain ⟨cq160, kq160, q160a, q160b, q160c⟩ := isOf hZ e159 Eb
 obtain ⟨_, _, ⟨T160, L160, k160, n160⟩, -, X160, ⟨Lc160, hQ160, l160, y160, z160⟩, st160⟩ := X159.virtualBack hx (y := (⟨kS0, "getValue", "()[B"⟩ : MethodName)) (z := (⟨kS0, "getValue", "()[B"⟩ : MethodName)) hown (mvT hZ (wd hw 157 rfl)) (mvT hZ (wd hw 158 rfl)) (notFace_of_selects (args := #[]) (mvT hZ (wd hw 160 rfl))) (mvT hZ (wd hw 160 rfl)) (mvT hZ (wd hw 159 rfl)) (by decide) (backOf (W := 0) (rm_gv l Z a0 hw [] a1 d1 h0 n0 Z0 Fbv) hZ (wd hw 161 rfl) (wd hw 87 rfl) (by decide) (by decide)) q160a q160c (g := (mkF m 5 (la10 x1 a1) [(.ref a1)])) rfl (by rw [hml]; rfl) (Steps.refl _) (argsL := []) (rest := []) (lenOf pd_16 rfl) rfl (wz rfl) (hb hby d28_5) (fun _ _ => ⟨rfl, e159, (by decide : 0 + 0 ≤ _), (by decide : 0 + 0 ≤ _)⟩)
 dsimp only [Pt.U, Pt.locs, Pt.cells, Pt.slots] at X160 l160 y160 z160 st160 hQ160
 rw [l160, y160, z160] at X160
 obtain ⟨rfl, N160q, e160⟩ := hQ160
 have N160 := Fr.app N0 N160q
 -- pc 10: StringBuilder.length by rm_bl
 obtain ⟨cq161, kq161, q161a, q161b, q161c⟩ := isOf hZ e160 Eb
 obtain ⟨_, _, ⟨T161, L161, k161, n161⟩, -, X161, ⟨Lc161, hQ161, l161, y161, z161⟩, st161⟩ := X160.virtualBack hx (y := (⟨kS0, "length", "()I"⟩ : MethodName)) (z := (⟨kS2, "length", "()I"⟩ : MethodName)) hown (mvT hZ (wd hw 162 rfl)) (mvT hZ (wd hw 163 rfl)) (own_nf (args := #[]) (mvT hZ (wd hw 120 rfl)) rfl) (mvT hZ (wd hw 165 rfl)) (mvT hZ (wd hw 166 rfl)) (by decide) (backOf (W := 0) (rm_bl l Z a0 hw [] a1 (7 : Int32) h0 n0 Z0 Eb Fbn) hZ (wd hw 167 rfl) (wd hw 79 rfl) (by decide) (by decide)) q161a q161c (g := (mkF m 10 (la11 x1 a1 d1) [(.ref a1)])) rfl (by rw [hml]; rfl) (Steps.refl _) (argsL := []) (rest := []) (lenOf pd_10 rfl) rfl (wz rfl) (hb hby d28_10) (fun _ _ => ⟨rfl, e160, (by decide : 0 + 0 ≤ _), (by decide : 0 + 0 ≤ _)⟩)
 dsimp only [Pt.U, Pt.locs, Pt.cells, Pt.slots] at X161 l161 y161 z161 st161 hQ161
 rw [l161, y161, z161] at X161
 obtain ⟨rfl, N161q, e161⟩ := hQ161
 have N161 := Fr.app N160 N161q
 -- pc 16: AbstractStringBuilder.isLatin1 by rm_il
 obtain ⟨cq162, kq162, q162a, q162b, q162c⟩ := isOf hZ e161 Eb
 obtain ⟨_, _, ⟨T162, L162, k162, n162⟩, -, X162, ⟨Lc162, hQ162, l162, y162, z162⟩, st162⟩ := X161.virtualBack hx (y := (⟨kS0, "isLatin1", "()Z"⟩ : MethodName)) (z := (⟨kS0, "isLatin1", "()Z"⟩ : MethodName)) hown (mvT hZ (wd hw 170 rfl)) (mvT hZ (wd hw 171 rfl)) (notFace_of_selects (args := #[]) (mvT hZ (wd hw 173 rfl))) (mvT hZ (wd hw 173 rfl)) (mvT hZ (wd hw 172 rfl)) (by decide) (backOf (W := 0) (rm_il l Z a0 hw [] a1 z0 h0 n0 Z0 O0 Fbc (by first | assumption | decide | omega) (by first | assumption | decide | omega)) hZ (wd hw 174 rfl) (wd hw 87 rfl) (by decide) (by decide)) q162a q162c (g := (mkF m 16 (la12 x1 a1 d1 (7 : Int32)) [(.ref a1)])) rfl (by rw [hml]; rfl) (Steps.refl _) (argsL := []) (rest := []) (lenOf pd_17 rfl) rfl (wz rfl) (hb hby d28_16) (fun _ _ => ⟨rfl, e161, (by decide : 0 + 0 ≤ _), (by decide : 0 + 0 ≤ _)⟩)
 dsimp only [Pt.U, Pt.locs, Pt.cells, Pt.slots] at X162 l162 y162 z162 st162 hQ162
 rw [l162, y162, z162] at X162
 obtain ⟨rfl, N162q, e162⟩ := hQ162
 have N162 := Fr.app N161 N162q
 obtain ⟨T163, h163, X163, e163, W163, st163⟩ := putFN X162 hx hZ hown (wd hw 26 rfl) Via.refl e162 Fc1 Es (Or.inr ⟨(wd hw 27 rfl), rfl, hnm⟩) (wd hw 1 rfl) (ty := .byte) (v' := (.int 0)) (by decide) rfl rfl (g := (mkF m 24 (la12 x1 a1 d1 (7 : Int32)) [(.int 0), (.ref x1)])) rfl rfl (hb hby d28_24)
 have ge164 : n0 ≤ x1 := by omega
 have N163 := Fr.snoc X163 N162 ge164
 have ne165 : x1 ≠ d1 := Exa.neArv Es Vb (wd hw 1 rfl)
 have ne166 : x1 ≠ a1 := ne_exa Es Eb (by decide)
 have sz163 : h0.size ≤ h163.size := Nat.le_of_eq W163.size.symm
 have nz163 := Nat.le_trans Z0 sz163
 have f163 : Fld Z h163 x1 kS1 "coder" "B" (.int 0) := Fc1.same W163
 -- pc 32: Arrays.copyOfRange by rm_cr_7_16
 have f168 : Arv Z h163 d1 kd .byte (16 : Int32) [(.int xe0), (.int xe1), (.int xe2), (.int xe3), (.int xe4), (.int xe5), (.int xe6), (.int 0), (.int 0), (.int 0), (.int 0), (.int 0), (.int 0), (.int 0), (.int 0), (.int 0)] (.int 0) := (Vb.other W163 (Ne.symm ne165))
 obtain ⟨_, _, ⟨T167, L167, k167, n167⟩, -, X167, ⟨Lc167, hQ167, l167, y167, z167⟩, st167⟩ := Jvm.LawKit.callS X163 hx (y := (⟨"java/util/Arrays", "copyOfRange", "([BII)[B"⟩ : MethodName)) hown (mvT hZ (wd hw 175 rfl)) (mvT hZ (wd hw 176 rfl)) (mvT hZ (wd hw 177 rfl)) (mvT hZ (wd hw 178 rfl)) (by decide) (backOf (W := 1) (rm_cr_7_16 l Z a0 hw [] d1 kd xe0 xe1 xe2 xe3 xe4 xe5 xe6 h163 n0 nz163 f168) hZ (wd hw 178 rfl) (wd hw 177 rfl) (by decide) (by decide)) (g := (mkF m 32 (la12 x1 a1 d1 (7 : Int32)) [(.int 7), (.int 0), (.ref d1), (.ref x1)])) rfl (by rw [hml]; rfl) (argsL := [(.ref d1), (.int 0), (.int 7)]) (rest := [(.ref x1)]) (lenOf pd_15 rfl) rfl (wz rfl) (hb hby d28_32) (fun _ _ => ⟨rfl, e163, (by decide : 0 + 1 ≤ _), (by decide : 0 + 7 ≤ _)⟩)
 dsimp only [Pt.U, Pt.locs, Pt.cells, Pt.slots] at X167 l167 y167 z167 st167 hQ167
 rw [l167, y167, z167] at X167
 obtain ⟨h167, e167⟩ : ∃ z, T167.heap = z := ⟨_, rfl⟩
 rw [e167] at hQ167
 obtain ⟨t_167, k_167, rfl, N167q, K167, p167_0, p167_1, r167_0⟩ := hQ167
 have N167 := Fr.app N163 N167q
 have sz167 : h163.size ≤ h167.size := K167.1
 have nz167 := Nat.le_trans nz163 sz167
 have lt167_0 := ltA p167_0.lt
 have lt167_1 := ltA p167_1.lt
 have f169 : Fld Z h167 x1 kS1 "value" "[B" u1 := ((Fv1.other W163 (Or.inr (slot_ne (Or.inr (wd hw 29 rfl)) (Or.inr (wd hw 27 rfl)) (by decide) (t := (.array .byte)) (t' := .byte) (by decide) (by decide)))).keep K167 nin0)
 have f170 : Exa Z h167 x1 kS1 := ((Es.wr W163).keep K167)
 obtain ⟨T171, h171, X171, e171, W171, st171⟩ := putF X167 hx hZ hown (host := "") (Or.inl (wd hw 28 rfl)) Via.refl e167 f169 f170 (Or.inr ⟨(wd hw 29 rfl), rfl, hnm⟩) (wd hw 1 rfl) (ty := (.array .byte)) (by decide) rfl rfl (g := (mkF m 35 (la12 x1 a1 d1 (7 : Int32)) [(.ref t_167), (.ref x1)])) rfl rfl (hb hby d28_35)
 have N171 := Fr.snoc X171 N167 ge164
 have ne172 : x1 ≠ t_167 := ne_exa f170 p167_0 (by decide)
 have sz171 : h167.size ≤ h171.size := Nat.le_of_eq W171.size.symm
 have nz171 := Nat.le_trans nz167 sz171
 have f171 : Fld Z h171 x1 kS1 "value" "[B" (.ref t_167) := f169.same W171
 have f173 : Exa Z h171 x1 kS1 := (f170.wr W171)
 have f174 : Fld Z h171 x1 kS1 "coder" "B" (.int 0) := ((f163.keep K167 nin0).other W171 (Or.inr (slot_ne (Or.inr (wd hw 27 rfl)) (Or.inr (wd hw 29 rfl)) (by decide) (t := .byte) (t' := (.array .byte)) (by decide) (by decide))))
 have f175 : Exa Z h171 t_167 "[B" := (p167_0.wr W171)
 have f176 : Arv Z h171 t_167 k_167 .byte (7 : Int32) [(.int xe0), (.int xe1), (.int xe2), (.int xe3), (.int xe4), (.int xe5), (.int xe6)] (.int 0) := (p167_1.other W171 (Ne.symm ne172))
 obtain ⟨fs, hr, hrun, hended, hW, hsame⟩ := X171.leave (v := none) (fun _ => rfl)
 refine ⟨_, _, pre0 _ ?_, hrun, hended, _, _, rfl, ?_, ⟨_, rfl⟩, hW, hsame.mono (by decide) (by decide)⟩
 ·show GO p e below s₁ (mkF m 0 (la10 x1 a1) []) _
  refine XS.aloadN X0.here hx rfl (hb hby d28_0) rfl rfl ?_
  show GO p e below s₁ (mkF m 1 (la10 x1 a1) [(.ref x1)]) _
  refine st159 _ ?_
  show GO p e below T159 (mkF m 4 (la10 x1 a1) []) _
  refine XS.aloadN X159.here hx rfl (hb hby d28_4) rfl rfl ?_
  show GO p e below T159 (mkF m 5 (la10 x1 a1) [(.ref a1)]) _
  refine st160.trans ?_
  show GO p e below T160 (mkF m 8 (la10 x1 a1) [(.ref d1)]) _
  refine XS.astoreN X160.here hx rfl (hb hby d28_8) rfl rfl (l' := (la11 x1 a1 d1)) rfl ?_
  show GO p e below T160 (mkF m 9 (la11 x1 a1 d1) []) _
  refine XS.aloadN X160.here hx rfl (hb hby d28_9) rfl rfl ?_
  show GO p e below T160 (mkF m 10 (la11 x1 a1 d1) [(.ref a1)]) _
  refine st161.trans ?_
  show GO p e below T161 (mkF m 13 (la11 x1 a1 d1) [(.int 7)]) _
  refine XS.istore X161.here hx rfl (hb hby d28_13) rfl (l' := (la12 x1 a1 d1 (7 : Int32))) rfl ?_
  show GO p e below T161 (mkF m 15 (la12 x1 a1 d1 (7 : Int32)) []) _
  refine XS.aloadN X161.here hx rfl (hb hby d28_15) rfl rfl ?_
  show GO p e below T161 (mkF m 16 (la12 x1 a1 d1 (7 : Int32)) [(.ref a1)]) _
  refine st162.trans ?_
  show GO p e below T162 (mkF m 19 (la12 x1 a1 d1 (7 : Int32)) [(.int 1)]) _
  refine XS.ifNo X162.here hx rfl (hb hby d28_19) rfl ((if0 _ _).trans (feq ((by decide) : ¬ ((1 : Int32) = (0 : Int32)))).1) ?_
  show GO p e below T162 (mkF m 22 (la12 x1 a1 d1 (7 : Int32)) []) _
  refine XS.aloadN X162.here hx rfl (hb hby d28_22) rfl rfl ?_
  show GO p e below T162 (mkF m 23 (la12 x1 a1 d1 (7 : Int32)) [(.ref x1)]) _
  refine XS.iconst X162.here hx rfl (hb hby d28_23) ?_
  show GO p e below T162 (mkF m 24 (la12 x1 a1 d1 (7 : Int32)) [(.int 0), (.ref x1)]) _
  refine st163 _ ?_
  show GO p e below T163 (mkF m 27 (la12 x1 a1 d1 (7 : Int32)) []) _
  refine XS.aloadN X163.here hx rfl (hb hby d28_27) rfl rfl ?_
  show GO p e below T163 (mkF m 28 (la12 x1 a1 d1 (7 : Int32)) [(.ref x1)]) _
  refine XS.aloadN X163.here hx rfl (hb hby d28_28) rfl rfl ?_
  show GO p e below T163 (mkF m 29 (la12 x1 a1 d1 (7 : Int32)) [(.ref d1), (.ref x1)]) _
  refine XS.iconst X163.here hx rfl (hb hby d28_29) ?_
  show GO p e below T163 (mkF m 30 (la12 x1 a1 d1 (7 : Int32)) [(.int 0), (.ref d1), (.ref x1)]) _
  refine XS.iload X163.here hx rfl (hb hby d28_30) rfl ?_
  show GO p e below T163 (mkF m 32 (la12 x1 a1 d1 (7 : Int32)) [(.int 7), (.int 0), (.ref d1), (.ref x1)]) _
  refine st167 _ ?_
  show GO p e below T167 (mkF m 35 (la12 x1 a1 d1 (7 : Int32)) [(.ref t_167), (.ref x1)]) _
  refine st171 _ ?_
  show GO p e below T171 (mkF m 38 (la12 x1 a1 d1 (7 : Int32)) []) _
  refine XS.goto X171.here hx rfl (pc0 := 38) (pc' := 97) rfl (hb hby d28_38) (by decide) (by decide) ?_
  show GO p e below T171 (mkF m 97 (la12 x1 a1 d1 (7 : Int32)) []) _
  exact X171.returnOut hx Bd.returns (hb hby d28_97) hr
 ·show Qrm_si2_7_16 Z x1 u1 u2 a1 d1 kd xe0 xe1 xe2 xe3 xe4 xe5 xe6 z0 h0 n0 _ T171.heap _
  rw [e171]
  exact ⟨t_167, k_167, rfl, N171, ((((Keep.refl h0 [x1]).wr W163 (Or.inl (List.mem_of_getElem? (i := 0) rfl))).trans K167 all0).wr W171 (Or.inl (List.mem_of_getElem? (i := 0) rfl))), f173, f174, f171, f175, f176, (by omega)⟩
def Qrm_si1_7_16 (Z : State) (x1 : Addr) (u1 : Value) (u2 : Value) (a1 : Addr) (d1 : Addr) (kd : ClassId) (xe0 : Int32) (xe1 : Int32) (xe2 : Int32) (xe3 : Int32) (xe4 : Int32) (xe5 : Int32) (xe6 : Int32) (z0 : Int32) (h0 : Heap) (n0 : Nat) (v : Option Value) (h : Heap) (L : List Loc) : Prop := ∃ t : Addr, ∃ k : ClassId, v = none ∧ Fr n0 L ∧ Keep h0 h [x1] ∧ Exa Z h x1 kS1 ∧ Fld Z h x1 kS1 "coder" "B" (.int 0) ∧ Fld Z h x1 kS1 "value" "[B" (.ref t) ∧ Exa Z h t "[B" ∧ Arv Z h t k .byte (7 : Int32) [(.int xe0), (.int xe1), (.int xe2), (.int xe3), (.int xe4), (.int xe5), (.int xe6)] (.int 0) ∧ h0.size ≤ t
theorem ef_rm_si1_7_16 (m : MethodId) (x0 : Addr) (x1 : Addr) : entryFrame m #[(.ref x0), (.ref x1)] 2 = mkF m 0 #[.val (.ref x0), .val (.ref x1)] [] := by first | rfl | (simp [entryFrame, mkF, argsToLocals, Value.category]; done)
theorem rm_si1_7_16 (l : Launch) (Z : State) (a0 : Array Value) (hw : HW Z a0) (ws : List Jvm.Cond) (x1 : Addr) (u1 : Value) (u2 : Value) (a1 : Addr) (d1 : Addr) (kd : ClassId) (xe0 : Int32) (xe1 : Int32) (xe2 : Int32) (xe3 : Int32) (xe4 : Int32) (xe5 : Int32) (xe6 : Int32) (z0 : Int32) (h0 : Heap) (n0 : Nat) (Z0 : n0 ≤ h0.size) (O0 : Old Z n0 h0) (Es : Exa Z h0 x1 kS1) (Fv1 : Fld Z h0 x1 kS1 "value" "[B" u1) (Fc1 : Fld Z h0 x1 kS1 "coder" "B" u2) (Eb : Exa Z h0 a1 kS2) (Fbv : Fld Z h0 a1 kS0 "value" "[B" (.ref d1)) (Fbc : Fld Z h0 a1 kS0 "coder" "B" (.int 0)) (Fbn : Fld Z h0 a1 kS0 "count" "I" (.int 7)) (Vb : Arv Z h0 d1 kd .byte (16 : Int32) [(.int xe0), (.int xe1), (.int xe2), (.int xe3), (.int xe4), (.int xe5), (.int xe6), (.int 0), (.int 0), (.int 0), (.int 0), (.int 0), (.int 0), (.int 0), (.int 0), (.int 0)] (.int 0)) (SZc : Sta Z Z.heap kS1 "COMPACT_STRINGS" "Z" (.int z0)) (hz0 : ¬ z0 = 0) (gx : n0 ≤ x1) :
  OwnM l Z h0 (⟨kS1, "<init>", "(Ljava/lang/StringBuilder;)V"⟩ : MethodName) (Jvm.Cond.code (⟨kS1, "<init>", "(Ljava/lang/StringBuilder;)V"⟩ : MethodName) jdk_42_method_53_code 2 none :: ws) (RM 4 1 7 65) #[(.ref x1), (.ref a1)] (Qrm_si1_7_16 Z x1 u1 u2 a1 d1 kd xe0 xe1 xe2 xe3 xe4 xe5 xe6 z0 h0 n0) := by
 refine MetFree.of_bodySF (plainFor_of_name pn_1) hisR ?_
 intro p e s m args below meth c s₁ Bd hml0 hP hK
 obtain ⟨rfl, hZ, hh⟩ := hP
 have hx := Bd.exec
 have hby := Bd.bytes
 have hml : c.maxLocals = 2 := hml0
 have hown : s.vm.findClass kS1 = some m.cls := findClass_of_methodNamed Bd.named
 have hnm := (name_of_methodNamed Bd.named Bd.method).1
 have X0 : Stand p l e (RM 4 1 7 65) s m #[(.ref x1), (.ref a1)] below meth c s₁ [] 0 0 := Stand.of_body Bd
 have e0 : s₁.heap = h0 := by rw [← hh, Bd.state]; rfl
 have N0 := Fr.nil n0
 have pre0 : ∀ t, GO p e below s₁ (mkF m 0 #[.val (.ref x1), .val (.ref a1)] []) t → GO p e below s₁ (entryFrame m #[(.ref x1), (.ref a1)] 2) t := fun t k => castTop (ef_rm_si1_7_16 m x1 a1) k
 have lt_Es := ltA Es.lt
 have lt_Fv1 := ltA Fv1.lt
 have lt_Fc1 := ltA Fc1.lt
 have lt_Eb := ltA Eb.lt
 have lt_Fbv := ltA Fbv.lt
 have lt_Fbc := ltA Fbc.lt
 have lt_Fbn := ltA Fbn.lt
 have lt_Vb := ltA Vb.lt
 -- pc 3: String.<init> by rm_si2_7_16
 obtain ⟨_, _, ⟨T177, L177, k177, n177⟩, -, X177, ⟨Lc177, hQ177, l177, y177, z177⟩, st177⟩ := X0.specialBack hx (y := (⟨kS1, "<init>", "(Ljava/lang/AbstractStringBuilder;Ljava/lang/Void;)V"⟩ : MethodName)) rfl hown (mvT hZ (wd hw 154 rfl)) (mvT hZ (wd hw 155 rfl)) (mvT hZ (wd hw 156 rfl)) (by decide) (backOf (W := 0) (rm_si2_7_16 l Z a0 hw [] x1 u1 u2 a1 d1 kd xe0 xe1 xe2 xe3 xe4 xe5 xe6 z0 h0 n0 Z0 O0 Es Fv1 Fc1 Eb Fbv Fbc Fbn Vb (by first | assumption | decide | omega) (by first | assumption | decide | omega) (by first | assumption | decide | omega)) hZ (wd hw 156 rfl) (wd hw 2 rfl) (by decide) (by decide)) (g := (mkF m 3 #[.val (.ref x1), .val (.ref a1)] [.null, (.ref a1), (.ref x1)])) rfl (by rw [hml]; rfl) (Steps.refl _) (a := x1) (argsL := [(.ref a1), .null]) (rest := []) (lenOf pd_18 rfl) rfl (wz rfl) (hb hby d27_3) (fun _ _ => ⟨rfl, e0, (by decide : 0 + 1 ≤ _), (by decide : 0 + 7 ≤ _)⟩)
 dsimp only [Pt.U, Pt.locs, Pt.cells, Pt.slots] at X177 l177 y177 z177 st177 hQ177
 rw [l177, y177, z177] at X177
 obtain ⟨h177, e177⟩ : ∃ z, T177.heap = z := ⟨_, rfl⟩
 rw [e177] at hQ177
 obtain ⟨t_177, k_177, rfl, N177q, K177, p177_0, p177_1, p177_2, p177_3, p177_4, r177_0⟩ := hQ177
 have N177 := Fr.app N0 N177q
 have sz177 : h0.size ≤ h177.size := K177.1
 have nz177 := Nat.le_trans Z0 sz177
 have lt177_0 := ltA p177_0.lt
 have lt177_3 := ltA p177_3.lt
 have lt177_4 := ltA p177_4.lt
 obtain ⟨fs, hr, hrun, hended, hW, hsame⟩ := X177.leave (v := none) (fun _ => rfl)
 refine ⟨_, _, pre0 _ ?_, hrun, hended, _, _, rfl, ?_, ⟨_, rfl⟩, hW, hsame.mono (by decide) (by decide)⟩
 ·show GO p e below s₁ (mkF m 0 #[.val (.ref x1), .val (.ref a1)] []) _
  refine XS.aloadN X0.here hx rfl (hb hby d27_0) rfl rfl ?_
  show GO p e below s₁ (mkF m 1 #[.val (.ref x1), .val (.ref a1)] [(.ref x1)]) _
  refine XS.aloadN X0.here hx rfl (hb hby d27_1) rfl rfl ?_
  show GO p e below s₁ (mkF m 2 #[.val (.ref x1), .val (.ref a1)] [(.ref a1), (.ref x1)]) _
  refine XS.aconstNull X0.here hx rfl (hb hby d27_2) ?_
  show GO p e below s₁ (mkF m 3 #[.val (.ref x1), .val (.ref a1)] [.null, (.ref a1), (.ref x1)]) _
  refine st177.trans ?_
  show GO p e below T177 (mkF m 6 #[.val (.ref x1), .val (.ref a1)] []) _
  exact X177.returnOut hx Bd.returns (hb hby d27_6) hr
 ·show Qrm_si1_7_16 Z x1 u1 u2 a1 d1 kd xe0 xe1 xe2 xe3 xe4 xe5 xe6 z0 h0 n0 _ T177.heap _
  rw [e177]
  exact ⟨t_177, k_177, rfl, N177, ((Keep.refl h0 [x1]).trans K177 (allS (P := fun x => x ∈ _ ∨ _) (Or.inl (List.mem_of_getElem? (i := 0) rfl)) all0)), p177_0, p177_1, p177_2, p177_3, p177_4, r177_0⟩
def Qrm_ts_7_16 (Z : State) (a1 : Addr) (d1 : Addr) (kd : ClassId) (xe0 : Int32) (xe1 : Int32) (xe2 : Int32) (xe3 : Int32) (xe4 : Int32) (xe5 : Int32) (xe6 : Int32) (z0 : Int32) (h0 : Heap) (n0 : Nat) (v : Option Value) (h : Heap) (L : List Loc) : Prop := ∃ x : Addr, ∃ t : Addr, ∃ k : ClassId, v = some (.ref x) ∧ Fr n0 L ∧ Keep h0 h [] ∧ Exa Z h x kS1 ∧ Fld Z h x kS1 "coder" "B" (.int 0) ∧ Fld Z h x kS1 "value" "[B" (.ref t) ∧ Exa Z h t "[B" ∧ Arv Z h t k .byte (7 : Int32) [(.int xe0), (.int xe1), (.int xe2), (.int xe3), (.int xe4), (.int xe5), (.int xe6)] (.int 0) ∧ h0.size ≤ x ∧ h0.size ≤ t
theorem ef_rm_ts_7_16 (m : MethodId) (x0 : Addr) : entryFrame m #[(.ref x0)] 1 = mkF m 0 #[.val (.ref x0)] [] := by first | rfl | (simp [entryFrame, mkF, argsToLocals, Value.category]; done)
theorem rm_ts_7_16 (l : Launch) (Z : State) (a0 : Array Value) (hw : HW Z a0) (ws : List Jvm.Cond) (a1 : Addr) (d1 : Addr) (kd : ClassId) (xe0 : Int32) (xe1 : Int32) (xe2 : Int32) (xe3 : Int32) (xe4 : Int32) (xe5 : Int32) (xe6 : Int32) (z0 : Int32) (h0 : Heap) (n0 : Nat) (Z0 : n0 ≤ h0.size) (O0 : Old Z n0 h0) (Eb : Exa Z h0 a1 kS2) (Fbv : Fld Z h0 a1 kS0 "value" "[B" (.ref d1)) (Fbc : Fld Z h0 a1 kS0 "coder" "B" (.int 0)) (Fbn : Fld Z h0 a1 kS0 "count" "I" (.int 7)) (Vb : Arv Z h0 d1 kd .byte (16 : Int32) [(.int xe0), (.int xe1), (.int xe2), (.int xe3), (.int xe4), (.int xe5), (.int xe6), (.int 0), (.int 0), (.int 0), (.int 0), (.int 0), (.int 0), (.int 0), (.int 0), (.int 0)] (.int 0)) (SZc : Sta Z Z.heap kS1 "COMPACT_STRINGS" "Z" (.int z0)) (hz0 : ¬ z0 = 0) :
  OwnM l Z h0 (⟨kS2, "toString", "()Ljava/lang/String;"⟩ : MethodName) (Jvm.Cond.code (⟨kS2, "toString", "()Ljava/lang/String;"⟩ : MethodName) jdk_67_method_42_code 1 (some (.object kS1)) :: ws) (RM 5 2 11 79) #[(.ref a1)] (Qrm_ts_7_16 Z a1 d1 kd xe0 xe1 xe2 xe3 xe4 xe5 xe6 z0 h0 n0) := by
 refine MetFree.of_bodySF (plainFor_of_name pn_7) hisR ?_
 intro p e s m args below meth c s₁ Bd hml0 hP hK
 obtain ⟨rfl, hZ, hh⟩ := hP
 have hx := Bd.exec
 have hby := Bd.bytes
 have hml : c.maxLocals = 1 := hml0
 have hown : s.vm.findClass kS2 = some m.cls := findClass_of_methodNamed Bd.named
 have hnm := (name_of_methodNamed Bd.named Bd.method).1
 have X0 : Stand p l e (RM 5 2 11 79) s m #[(.ref a1)] below meth c s₁ [] 0 0 := Stand.of_body Bd
 have e0 : s₁.heap = h0 := by rw [← hh, Bd.state]; rfl
 have N0 := Fr.nil n0
 have pre0 : ∀ t, GO p e below s₁ (mkF m 0 #[.val (.ref a1)] []) t → GO p e below s₁ (entryFrame m #[(.ref a1)] 1) t := fun t k => castTop (ef_rm_ts_7_16 m a1) k
 have lt_Eb := ltA Eb.lt
 have lt_Fbv := ltA Fbv.lt
 have lt_Fbc := ltA Fbc.lt
 have lt_Fbn := ltA Fbn.lt
 have lt_Vb := ltA Vb.lt
 obtain ⟨T178, h178, X178, e178, E178, A178, D178, U178, st178⟩ := newO X0 hx hZ hown (wd hw 150 rfl) (wd hw 1 rfl) (wd hw 2 rfl) e0 (g := (mkF m 0 #[.val (.ref a1)] [])) rfl (hb hby d26_0) (by decide) (by decide)
 obtain ⟨b178, g178⟩ : ∃ z, z = h0.size := ⟨_, rfl⟩
 rw [← g178] at A178 D178 U178 st178
 have sz178 : h0.size ≤ h178.size := E178.1
 have nz178 := Nat.le_trans Z0 sz178
 have lt178 := ltA A178.lt
 have f179 : Fld Z h178 b178 kS1 "coder" "B" (.int 0) := D178 (Or.inr (wd hw 27 rfl)) (ty := .byte) (by decide)
 have f180 : Fld Z h178 b178 kS1 "value" "[B" .null := D178 (Or.inr (wd hw 29 rfl)) (ty := (.array .byte)) (by decide)
 -- pc 5: String.<init> by rm_si1_7_16
 have f182 : Old Z n0 h178 := (O0.ext E178)
 have f183 : Exa Z h178 a1 kS2 := (Eb.ext E178)
 have f184 : Fld Z h178 a1 kS0 "value" "[B" (.ref d1) := (Fbv.ext E178)
 have f185 : Fld Z h178 a1 kS0 "coder" "B" (.int 0) := (Fbc.ext E178)
 have f186 : Fld Z h178 a1 kS0 "count" "I" (.int 7) := (Fbn.ext E178)
 have f187 : Arv Z h178 d1 kd .byte (16 : Int32) [(.int xe0), (.int xe1), (.int xe2), (.int xe3), (.int xe4), (.int xe5), (.int xe6), (.int 0), (.int 0), (.int 0), (.int 0), (.int 0), (.int 0), (.int 0), (.int 0), (.int 0)] (.int 0) := (Vb.ext E178)
 obtain ⟨_, _, ⟨T181, L181, k181, n181⟩, -, X181, ⟨Lc181, hQ181, l181, y181, z181⟩, st181⟩ := X178.specialBack hx (y := (⟨kS1, "<init>", "(Ljava/lang/StringBuilder;)V"⟩ : MethodName)) rfl hown (mvT hZ (wd hw 151 rfl)) (mvT hZ (wd hw 152 rfl)) (mvT hZ (wd hw 153 rfl)) (by decide) (backOf (W := 1) (rm_si1_7_16 l Z a0 hw [] b178 .null (.int 0) a1 d1 kd xe0 xe1 xe2 xe3 xe4 xe5 xe6 z0 h178 n0 nz178 f182 A178 f180 f179 f183 f184 f185 f186 f187 (by first | assumption | decide | omega) (by first | assumption | decide | omega) (by first | assumption | decide | omega)) hZ (wd hw 153 rfl) (wd hw 2 rfl) (by decide) (by decide)) (g := (mkF m 5 #[.val (.ref a1)] [(.ref a1), (.ref b178), (.ref b178)])) rfl (by rw [hml]; rfl) (Steps.refl _) (a := b178) (argsL := [(.ref a1)]) (rest := [(.ref b178)]) (lenOf pd_19 rfl) rfl (wz rfl) (hb hby d26_5) (fun _ _ => ⟨rfl, e178, (by decide : 1 + 1 ≤ _), (by decide : 4 + 7 ≤ _)⟩)
 dsimp only [Pt.U, Pt.locs, Pt.cells, Pt.slots] at X181 l181 y181 z181 st181 hQ181
 rw [l181, y181, z181] at X181
 obtain ⟨h181, e181⟩ : ∃ z, T181.heap = z := ⟨_, rfl⟩
 rw [e181] at hQ181
 obtain ⟨t_181, k_181, rfl, N181q, K181, p181_0, p181_1, p181_2, p181_3, p181_4, r181_0⟩ := hQ181
 have N181 := Fr.app N0 N181q
 have sz181 : h178.size ≤ h181.size := K181.1
 have nz181 := Nat.le_trans nz178 sz181
 have lt181_0 := ltA p181_0.lt
 have lt181_3 := ltA p181_3.lt
 have lt181_4 := ltA p181_4.lt
 obtain ⟨fs, hr, hrun, hended, hW, hsame⟩ := X181.leave (v := some (.ref b178)) (fun h => by rw [Bd.returns] at h; cases h)
 refine ⟨_, _, pre0 _ ?_, hrun, hended, _, _, rfl, ?_, ⟨_, rfl⟩, hW, hsame.mono (by decide) (by decide)⟩
 ·show GO p e below s₁ (mkF m 0 #[.val (.ref a1)] []) _
  refine st178 _ ?_
  show GO p e below T178 (mkF m 3 #[.val (.ref a1)] [(.ref b178)]) _
  refine XS.dup X178.here hx rfl (hb hby d26_3) rfl rfl ?_
  show GO p e below T178 (mkF m 4 #[.val (.ref a1)] [(.ref b178), (.ref b178)]) _
  refine XS.aloadN X178.here hx rfl (hb hby d26_4) rfl rfl ?_
  show GO p e below T178 (mkF m 5 #[.val (.ref a1)] [(.ref a1), (.ref b178), (.ref b178)]) _
  refine st181.trans ?_
  show GO p e below T181 (mkF m 8 #[.val (.ref a1)] [(.ref b178)]) _
  exact retOut X181 hx Bd.returns rfl (Or.inr (Or.inr (Or.inr (Or.inr ⟨rfl, rfl, rfl⟩)))) (hb hby d26_8) hr
 ·show Qrm_ts_7_16 Z a1 d1 kd xe0 xe1 xe2 xe3 xe4 xe5 xe6 z0 h0 n0 _ T181.heap _
  rw [e181]
  exact ⟨b178, t_181, k_181, rfl, N181, (((Keep.refl h0 []).ext E178).trans K181 (allS (P := fun x => x ∈ _ ∨ _) (Or.inr (by omega)) all0)), p181_0, p181_1, p181_2, p181_3, p181_4, (by omega), (by omega)⟩
def Qrm_cond0 (Z : State) (x1 : Addr) (t1 : Addr) (k1 : ClassId) (xs0 : Int32) (xs1 : Int32) (a1 : Addr) (o1 : Addr) (z0 : Int32) (h0 : Heap) (n0 : Nat) (v : Option Value) (h : Heap) (L : List Loc) : Prop := ∃ x : Addr, ∃ t : Addr, ∃ k : ClassId, v = some (.ref x) ∧ Fr n0 L ∧ Keep h0 h [] ∧ Exa Z h x kS1 ∧ Fld Z h x kS1 "coder" "B" (.int 0) ∧ Fld Z h x kS1 "value" "[B" (.ref t) ∧ Arv Z h t k .byte (7 : Int32) [(.int xs0), (.int xs1), (.int 32), (.int 62), (.int 61), (.int 32), (.int 63)] (.int 0)
theorem ef_rm_cond0 (m : MethodId) (x0 : Addr) (x1 : Addr) : entryFrame m #[(.ref x0), (.ref x1)] 2 = mkF m 0 #[.val (.ref x0), .val (.ref x1)] [] := by first | rfl | (simp [entryFrame, mkF, argsToLocals, Value.category]; done)
theorem rm_cond0 (l : Launch) (Z : State) (a0 : Array Value) (hw : HW Z a0) (ws : List Jvm.Cond) (x1 : Addr) (t1 : Addr) (k1 : ClassId) (xs0 : Int32) (xs1 : Int32) (a1 : Addr) (o1 : Addr) (z0 : Int32) (h0 : Heap) (n0 : Nat) (Z0 : n0 ≤ h0.size) (O0 : Old Z n0 h0) (Esx1 : Exa Z h0 x1 kS1) (Fcx1 : Fld Z h0 x1 kS1 "coder" "B" (.int 0)) (Fvx1 : Fld Z h0 x1 kS1 "value" "[B" (.ref t1)) (Vsx1 : Arv Z h0 t1 k1 .byte (2 : Int32) [(.int xs0), (.int xs1)] (.int 0)) (Fb : Fld Z h0 a1 "com/example/lease/lease/store/KeyRange" "below" "Ljava/util/Optional;" (.ref o1)) (Eo : Exa Z h0 o1 "java/util/Optional") (Fo : Fld Z h0 o1 "java/util/Optional" "value" "Ljava/lang/Object;" .null) (SZc : Sta Z Z.heap kS1 "COMPACT_STRINGS" "Z" (.int z0)) (hz0 : ¬ z0 = 0) :
  OwnW l Z h0 (⟨"com/example/lease/lease/store/KeyRange", "condition", "(Ljava/lang/String;)Ljava/lang/String;"⟩ : MethodName) (Jvm.Cond.code (⟨"com/example/lease/lease/store/KeyRange", "condition", "(Ljava/lang/String;)Ljava/lang/String;"⟩ : MethodName) prog_34_method_3_code 2 (some (.object kS1)) :: ws) (RM 6 6 55 91) #[(.ref a1), (.ref x1)] [] (Qrm_cond0 Z x1 t1 k1 xs0 xs1 a1 o1 z0 h0 n0) := by
 refine MetFree.of_bodySF (plainFor_of_name pn_5) hisR ?_
 intro p e s m args below meth c s₁ Bd hml0 hP hK
 obtain ⟨rfl, hZ, hh, H0, sf⟩ := hP
 have hx := Bd.exec
 have hby := Bd.bytes
 have hml : c.maxLocals = 2 := hml0
 have hown : s.vm.findClass "com/example/lease/lease/store/KeyRange" = some m.cls := findClass_of_methodNamed Bd.named
 have hnm := (name_of_methodNamed Bd.named Bd.method).1
 have X0 : Stand p l e (RM 6 6 55 91) (s.setVm s.vm) m #[(.ref a1), (.ref x1)] below meth c s₁ [] 0 0 := Stand.of_body Bd
 have hS0 : s.Since s.vm h0.size := (State.WarmedH.refl s).since _
 have C0 : CHr Z EL1 s.vm h0 s.vm h0 := CHr.refl H0
 have e0 : s₁.heap = h0 := by rw [← hh, Bd.state]; rfl
 have N0 := Fr.nil n0
 have pre0 : ∀ t, GO p e below s₁ (mkF m 0 #[.val (.ref a1), .val (.ref x1)] []) t → GO p e below s₁ (entryFrame m #[(.ref a1), (.ref x1)] 2) t := fun t k => castTop (ef_rm_cond0 m a1 x1) k
 have lt_Esx1 := ltA Esx1.lt
 have lt_Fcx1 := ltA Fcx1.lt
 have lt_Fvx1 := ltA Fvx1.lt
 have lt_Vsx1 := ltA Vsx1.lt
 have lt_Fb := ltA Fb.lt
 have lt_Eo := ltA Eo.lt
 have lt_Fo := ltA Fo.lt
 obtain ⟨T188, X188, e188, st188⟩ := getF X0 hx hZ hown (host := "") (Or.inl (wd hw 63 rfl)) Via.refl e0 Fb (g := (mkF m 1 #[.val (.ref a1), .val (.ref x1)] [(.ref a1)])) rfl rfl (hb hby d14_1)
 -- pc 4: Optional.isPresent by rm_ip0
 obtain ⟨cq189, kq189, q189a, q189b, q189c⟩ := isOf hZ e188 Eo
 obtain ⟨_, _, ⟨T189, L189, k189, n189⟩, -, X189, ⟨Lc189, hQ189, l189, y189, z189⟩, st189⟩ := X188.virtualBack hx (y := (⟨"java/util/Optional", "isPresent", "()Z"⟩ : MethodName)) (z := (⟨"java/util/Optional", "isPresent", "()Z"⟩ : MethodName)) hown (mvT hZ (wd hw 70 rfl)) (mvT hZ (wd hw 71 rfl)) (notFace_of_selects (args := #[]) (mvT hZ (wd hw 73 rfl))) (mvT hZ (wd hw 73 rfl)) (mvT hZ (wd hw 72 rfl)) (by decide) (backOf (W := 0) (rm_ip0 l Z a0 hw [] o1 h0 n0 Z0 Fo) hZ (wd hw 74 rfl) (wd hw 32 rfl) (by decide) (by decide)) q189a q189c (g := (mkF m 4 #[.val (.ref a1), .val (.ref x1)] [(.ref o1)])) rfl (by rw [hml]; rfl) (Steps.refl _) (argsL := []) (rest := []) (lenOf pd_17 rfl) rfl (wz rfl) (hb hby d14_4) (fun _ _ => ⟨rfl, e188, (by decide : 0 + 0 ≤ _), (by decide : 0 + 0 ≤ _)⟩)
 dsimp only [Pt.U, Pt.locs, Pt.cells, Pt.slots] at X189 l189 y189 z189 st189 hQ189
 rw [l189, y189, z189] at X189
 obtain ⟨rfl, N189q, e189⟩ := hQ189
 have N189 := Fr.app N0 N189q
 obtain ⟨T190, h190, X190, e190, E190, A190, D190, U190, st190⟩ := newO X189 hx hZ hown (wd hw 77 rfl) (wd hw 78 rfl) (wd hw 79 rfl) e189 (g := (mkF m 41 #[.val (.ref a1), .val (.ref x1)] [])) rfl (hb hby d14_41) (by decide) (by decide)
 obtain ⟨b190, g190⟩ : ∃ z, z = h0.size := ⟨_, rfl⟩
 rw [← g190] at A190 D190 U190 st190
 have C191 : CHr Z EL1 s.vm h0 s.vm h190 := C0.trans (CHr.ext E190 C0.1)
 have sz190 : h0.size ≤ h190.size := E190.1
 have nz190 := Nat.le_trans Z0 sz190
 have lt190 := ltA A190.lt
 have f192 : Fld Z h190 b190 kS0 "value" "[B" .null := D190 (Or.inl (wd hw 92 rfl)) (ty := (.array .byte)) (by decide)
 have f193 : Fld Z h190 b190 kS0 "coder" "B" (.int 0) := D190 (Or.inl (wd hw 94 rfl)) (ty := .byte) (by decide)
 have f194 : Fld Z h190 b190 kS0 "count" "I" (.int 0) := D190 (Or.inl (wd hw 116 rfl)) (ty := .int) (by decide)
 -- pc 45: StringBuilder.<init> by rm_bi
 have f196 : Old Z n0 h190 := (O0.ext E190)
 obtain ⟨_, _, ⟨T195, L195, k195, n195⟩, -, X195, ⟨Lc195, hQ195, l195, y195, z195⟩, st195⟩ := X190.specialBack hx (y := (⟨kS2, "<init>", "()V"⟩ : MethodName)) rfl hown (mvT hZ (wd hw 80 rfl)) (mvT hZ (wd hw 81 rfl)) (mvT hZ (wd hw 82 rfl)) (by decide) (backOf (W := 1) (rm_bi l Z a0 hw [] b190 .null (.int 0) z0 h190 n0 nz190 f196 A190 f192 f193 f194 (by first | assumption | decide | omega) (by first | assumption | decide | omega) (by first | assumption | decide | omega)) hZ (wd hw 82 rfl) (wd hw 79 rfl) (by decide) (by decide)) (g := (mkF m 45 #[.val (.ref a1), .val (.ref x1)] [(.ref b190), (.ref b190)])) rfl (by rw [hml]; rfl) (Steps.refl _) (a := b190) (argsL := []) (rest := [(.ref b190)]) (lenOf pd_5 rfl) rfl (wz rfl) (hb hby d14_45) (fun _ _ => ⟨rfl, e190, (by decide : 1 + 1 ≤ _), (by decide : 4 + 16 ≤ _)⟩)
 dsimp only [Pt.U, Pt.locs, Pt.cells, Pt.slots] at X195 l195 y195 z195 st195 hQ195
 rw [l195, y195, z195] at X195
 obtain ⟨h195, e195⟩ : ∃ z, T195.heap = z := ⟨_, rfl⟩
 rw [e195] at hQ195
 obtain ⟨d_195, k_195, rfl, N195q, K195, p195_0, p195_1, p195_2, p195_3, p195_4, r195_0⟩ := hQ195
 have N195 := Fr.app N189 N195q
 have f197 : Exa Z h190 x1 kS1 := (Esx1.ext E190)
 have ne198 : b190 ≠ x1 := ne_exa A190 f197 (by decide)
 have f199 : Arv Z h190 t1 k1 .byte (2 : Int32) [(.int xs0), (.int xs1)] (.int 0) := (Vsx1.ext E190)
 have ne200 : b190 ≠ t1 := Exa.neArv A190 f199 (wd hw 78 rfl)
 have C201 : CHr Z EL1 s.vm h0 s.vm h195 := C191.trans (CHr.keep K195 (sfS (Safe.exa hZ.alike A190 (by decide) (by decide)) sf0) C191.1)
 have sz195 : h190.size ≤ h195.size := K195.1
 have nz195 := Nat.le_trans nz190 sz195
 have lt195_0 := ltA p195_0.lt
 have lt195_4 := ltA p195_4.lt
 have B195_d_195 : Safe Z EL1 s.vm h195 d_195 := Safe.keep K195 (sfS (Safe.exa hZ.alike A190 (by decide) (by decide)) sf0) C191.1 (Safe.new (by omega))
 -- pc 49: StringBuilder.append by rm_sa_2_0_16
 have ge203 : n0 ≤ b190 := by omega
 have f204 : Old Z n0 h195 := (f196.keep K195 (allS ge203 all0))
 have f205 : Exa Z h195 x1 kS1 := (f197.keep K195)
 have f206 : Fld Z h195 x1 kS1 "coder" "B" (.int 0) := ((Fcx1.ext E190).keep K195 (ninS (Ne.symm ne198) nin0))
 have f207 : Fld Z h195 x1 kS1 "value" "[B" (.ref t1) := ((Fvx1.ext E190).keep K195 (ninS (Ne.symm ne198) nin0))
 have f208 : Arv Z h195 t1 k1 .byte (2 : Int32) [(.int xs0), (.int xs1)] (.int 0) := (f199.keep K195 (ninS (Ne.symm ne200) nin0))
 have ne209 : t1 ≠ d_195 := neN (by omega)
 obtain ⟨cq202, kq202, q202a, q202b, q202c⟩ := isOf hZ e195 p195_0
 obtain ⟨_, _, ⟨T202, L202, k202, n202⟩, -, X202, ⟨Lc202, hQ202, l202, y202, z202⟩, st202⟩ := X195.virtualBack hx (y := (⟨kS2, "append", "(Ljava/lang/String;)Ljava/lang/StringBuilder;"⟩ : MethodName)) (z := (⟨kS2, "append", "(Ljava/lang/String;)Ljava/lang/StringBuilder;"⟩ : MethodName)) hown (mvT hZ (wd hw 95 rfl)) (mvT hZ (wd hw 96 rfl)) (notFace_of_selects (args := #[]) (mvT hZ (wd hw 98 rfl))) (mvT hZ (wd hw 98 rfl)) (mvT hZ (wd hw 97 rfl)) (by decide) (backOf (W := 0) (rm_sa_2_0_16 l Z a0 hw [] x1 t1 k1 xs0 xs1 b190 d_195 k_195 z0 h195 n0 nz195 f204 f205 f206 f207 f208 p195_0 p195_1 p195_2 p195_3 p195_4 (by first | assumption | decide | omega) (by first | assumption | decide | omega) (by first | assumption | decide | omega) (by first | assumption | decide | omega) ne209) hZ (wd hw 99 rfl) (wd hw 79 rfl) (by decide) (by decide)) q202a q202c (g := (mkF m 49 #[.val (.ref a1), .val (.ref x1)] [(.ref x1), (.ref b190)])) rfl (by rw [hml]; rfl) (Steps.refl _) (argsL := [(.ref x1)]) (rest := []) (lenOf pd_20 rfl) rfl (wz rfl) (hb hby d14_49) (fun _ _ => ⟨rfl, e195, (by decide : 2 + 0 ≤ _), (by decide : 20 + 0 ≤ _)⟩)
 dsimp only [Pt.U, Pt.locs, Pt.cells, Pt.slots] at X202 l202 y202 z202 st202 hQ202
 rw [l202, y202, z202] at X202
 obtain ⟨h202, e202⟩ : ∃ z, T202.heap = z := ⟨_, rfl⟩
 rw [e202] at hQ202
 obtain ⟨rfl, N202q, K202, p202_0, p202_1, p202_2, p202_3, p202_4⟩ := hQ202
 have N202 := Fr.app N195 N202q
 have ne210 : d_195 ≠ x1 := Ne.symm (Exa.neArv f205 p195_4 (wd hw 1 rfl))
 have C211 : CHr Z EL1 s.vm h0 s.vm h202 := C201.trans (CHr.keep K202 (sfS (Safe.exa hZ.alike p195_0 (by decide) (by decide)) (sfS B195_d_195 sf0)) C201.1)
 have sz202 : h195.size ≤ h202.size := K202.1
 have nz202 := Nat.le_trans nz195 sz202
 have lt202_0 := ltA p202_0.lt
 have lt202_4 := ltA p202_4.lt
 obtain ⟨sa212, T212, h212, kk212, sb212, sk212, X212, e212, E212, hS212, hk212, hZ212, hown212, A212, Fc212, Fv212, V212, lt212, ltb212, C212w, Lt212, ne212, st212⟩ := ldcCH X202 hx hZ hown (wd hw 142 rfl) (own_wS hw) e202 hS0 (by omega) (own_EW hw) (by decide) C211.1 (vs := [(.int 32), (.int 62), (.int 61), (.int 32), (.int 63)]) (z := (5 : Int32)) (by decide +kernel) (by decide) (by decide) (g := (mkF m 52 #[.val (.ref a1), .val (.ref x1)] [(.ref b190)])) rfl (hb hby d14_52) (n := 20) (by decide) (by decide) (by decide) (by decide)
 have C213 : CHr Z EL1 s.vm h0 T212.vm h212 := C211.trans (C212w)
 have sz212 : h202.size ≤ h212.size := E212.1
 have nz212 := Nat.le_trans nz202 sz212
 have lv212 := ltA lt212
 have lw212 := ltA ltb212
 have f214 : Exa Z h212 b190 kS2 := (p202_0.ext E212)
 have nx212_b190 := ne212 b190 (Safe.exa hZ212.alike f214 (by decide) (by decide))
 have f215 : Safe Z EL1 T212.vm h212 d_195 := (CHr.safe C212w (ltN (by omega)) (Safe.keep K202 (sfS (Safe.exa hZ.alike p195_0 (by decide) (by decide)) (sfS B195_d_195 sf0)) C201.1 B195_d_195))
 have nx212_d_195 := ne212 d_195 f215
 have f216 : Exa Z h212 o1 "java/util/Optional" := ((((Eo.ext E190).keep K195).keep K202).ext E212)
 have nx212_o1 := ne212 o1 (Safe.exa hZ212.alike f216 (by decide) (by decide))
 -- pc 54: StringBuilder.append by rm_sa_5_2_16
 have ge218 : n0 ≤ d_195 := by omega
 have f219 : Old Z n0 h212 := ((f204.keep K202 (allS ge203 (allS ge218 all0))).ext E212)
 have f220 : Fld Z h212 b190 kS0 "value" "[B" (.ref d_195) := (p202_1.ext E212)
 have f221 : Fld Z h212 b190 kS0 "coder" "B" (.int 0) := (p202_2.ext E212)
 have f222 : Fld Z h212 b190 kS0 "count" "I" (.int 2) := (p202_3.ext E212)
 have f223 : Arv Z h212 d_195 k_195 .byte (16 : Int32) [(.int xs0), (.int xs1), (.int 0), (.int 0), (.int 0), (.int 0), (.int 0), (.int 0), (.int 0), (.int 0), (.int 0), (.int 0), (.int 0), (.int 0), (.int 0), (.int 0)] (.int 0) := (p202_4.ext E212)
 obtain ⟨cq217, kq217, q217a, q217b, q217c⟩ := isOf hZ212 e212 f214
 obtain ⟨_, _, ⟨T217, L217, k217, n217⟩, -, X217, ⟨Lc217, hQ217, l217, y217, z217⟩, st217⟩ := X212.virtualBack hx (y := (⟨kS2, "append", "(Ljava/lang/String;)Ljava/lang/StringBuilder;"⟩ : MethodName)) (z := (⟨kS2, "append", "(Ljava/lang/String;)Ljava/lang/StringBuilder;"⟩ : MethodName)) hown212 (mvT hZ212 (wd hw 95 rfl)) (mvT hZ212 (wd hw 96 rfl)) (notFace_of_selects (args := #[]) (mvT hZ212 (wd hw 98 rfl))) (mvT hZ212 (wd hw 98 rfl)) (mvT hZ212 (wd hw 97 rfl)) (by decide) (backOf (W := 0) (rm_sa_5_2_16 l Z a0 hw [] sa212 sb212 sk212 (32 : Int32) (62 : Int32) (61 : Int32) (32 : Int32) (63 : Int32) b190 d_195 k_195 xs0 xs1 z0 h212 n0 nz212 f219 A212 Fc212 Fv212 V212 f214 f220 f221 f222 f223 (by first | assumption | decide | omega) (by first | assumption | decide | omega) (by first | assumption | decide | omega) (by first | assumption | decide | omega) (Ne.symm nx212_d_195.2)) hZ212 (wd hw 99 rfl) (wd hw 79 rfl) (by decide) (by decide)) q217a q217c (g := (mkF m 54 #[.val (.ref a1), .val (.ref x1)] [(.ref sa212), (.ref b190)])) rfl (by rw [hml]; rfl) (Steps.refl _) (argsL := [(.ref sa212)]) (rest := []) (lenOf pd_20 rfl) rfl (wz rfl) (hb hby d14_54) (fun _ _ => ⟨rfl, e212, (by decide : 4 + 0 ≤ _), (by decide : 44 + 0 ≤ _)⟩)
 dsimp only [Pt.U, Pt.locs, Pt.cells, Pt.slots] at X217 l217 y217 z217 st217 hQ217
 rw [l217, y217, z217] at X217
 obtain ⟨h217, e217⟩ : ∃ z, T217.heap = z := ⟨_, rfl⟩
 rw [e217] at hQ217
 obtain ⟨rfl, N217q, K217, p217_0, p217_1, p217_2, p217_3, p217_4⟩ := hQ217
 have N217 := Fr.app N202 N217q
 have C224 : CHr Z EL1 s.vm h0 T212.vm h217 := C213.trans (CHr.keep K217 (sfS (Safe.exa hZ212.alike f214 (by decide) (by decide)) (sfS f215 sf0)) C213.1)
 have sz217 : h212.size ≤ h217.size := K217.1
 have nz217 := Nat.le_trans nz212 sz217
 have lt217_0 := ltA p217_0.lt
 have lt217_4 := ltA p217_4.lt
 -- pc 57: StringBuilder.toString by rm_ts_7_16
 have f226 : Old Z n0 h217 := (f219.keep K217 (allS ge203 (allS ge218 all0)))
 obtain ⟨cq225, kq225, q225a, q225b, q225c⟩ := isOf hZ212 e217 p217_0
 obtain ⟨_, _, ⟨T225, L225, k225, n225⟩, -, X225, ⟨Lc225, hQ225, l225, y225, z225⟩, st225⟩ := X217.virtualBack hx (y := (⟨kS2, "toString", "()Ljava/lang/String;"⟩ : MethodName)) (z := (⟨kS2, "toString", "()Ljava/lang/String;"⟩ : MethodName)) hown212 (mvT hZ212 (wd hw 145 rfl)) (mvT hZ212 (wd hw 146 rfl)) (notFace_of_selects (args := #[]) (mvT hZ212 (wd hw 148 rfl))) (mvT hZ212 (wd hw 148 rfl)) (mvT hZ212 (wd hw 147 rfl)) (by decide) (backOf (W := 0) (rm_ts_7_16 l Z a0 hw [] b190 d_195 k_195 xs0 xs1 (32 : Int32) (62 : Int32) (61 : Int32) (32 : Int32) (63 : Int32) z0 h217 n0 nz217 f226 p217_0 p217_1 p217_2 p217_3 p217_4 (by first | assumption | decide | omega) (by first | assumption | decide | omega)) hZ212 (wd hw 149 rfl) (wd hw 79 rfl) (by decide) (by decide)) q225a q225c (g := (mkF m 57 #[.val (.ref a1), .val (.ref x1)] [(.ref b190)])) rfl (by rw [hml]; rfl) (Steps.refl _) (argsL := []) (rest := []) (lenOf pd_21 rfl) rfl (wz rfl) (hb hby d14_57) (fun _ _ => ⟨rfl, e217, (by decide : 4 + 2 ≤ _), (by decide : 44 + 11 ≤ _)⟩)
 dsimp only [Pt.U, Pt.locs, Pt.cells, Pt.slots] at X225 l225 y225 z225 st225 hQ225
 rw [l225, y225, z225] at X225
 obtain ⟨h225, e225⟩ : ∃ z, T225.heap = z := ⟨_, rfl⟩
 rw [e225] at hQ225
 obtain ⟨x_225, t_225, k_225, rfl, N225q, K225, p225_0, p225_1, p225_2, p225_3, p225_4, r225_0, r225_1⟩ := hQ225
 have N225 := Fr.app N217 N225q
 have C227 : CHr Z EL1 s.vm h0 T212.vm h225 := C224.trans (CHr.keep K225 sf0 C224.1)
 have sz225 : h217.size ≤ h225.size := K225.1
 have nz225 := Nat.le_trans nz217 sz225
 have lt225_0 := ltA p225_0.lt
 have lt225_3 := ltA p225_3.lt
 have lt225_4 := ltA p225_4.lt
 have B225_x_225 : Safe Z EL1 T212.vm h225 x_225 := Safe.keep K225 sf0 C224.1 (Safe.new (by omega))
 have B225_t_225 : Safe Z EL1 T212.vm h225 t_225 := Safe.keep K225 sf0 C224.1 (Safe.new (by omega))
 obtain ⟨fs, hr, hrun, hended, hE⟩ := X225.leaveW hS212 (by rw [e225]; omega) (v := some (.ref x_225)) (fun h => by rw [Bd.returns] at h; cases h)
 have CE := C227.trans (CHv.at X225 hZ212 (own_EW hw) C227.1)
 refine ⟨_, _, pre0 _ ?_, hrun, hended, _, _, rfl, ?_, ?_, ⟨hE.1, hE.2.1, hE.2.2.1, hE.2.2.2.mono (by decide) (by decide)⟩⟩
 ·show GO p e below s₁ (mkF m 0 #[.val (.ref a1), .val (.ref x1)] []) _
  refine XS.aloadN X0.here hx rfl (hb hby d14_0) rfl rfl ?_
  show GO p e below s₁ (mkF m 1 #[.val (.ref a1), .val (.ref x1)] [(.ref a1)]) _
  refine st188 _ ?_
  show GO p e below T188 (mkF m 4 #[.val (.ref a1), .val (.ref x1)] [(.ref o1)]) _
  refine st189.trans ?_
  show GO p e below T189 (mkF m 7 #[.val (.ref a1), .val (.ref x1)] [(.int 0)]) _
  refine XS.ifYes X189.here hx rfl (pc0 := 7) (pc' := 41) rfl (hb hby d14_7) rfl ((if0 _ _).trans (teq (rfl : (0 : Int32) = (0 : Int32))).1) (by decide) (by decide) ?_
  show GO p e below T189 (mkF m 41 #[.val (.ref a1), .val (.ref x1)] []) _
  refine st190 _ ?_
  show GO p e below T190 (mkF m 44 #[.val (.ref a1), .val (.ref x1)] [(.ref b190)]) _
  refine XS.dup X190.here hx rfl (hb hby d14_44) rfl rfl ?_
  show GO p e below T190 (mkF m 45 #[.val (.ref a1), .val (.ref x1)] [(.ref b190), (.ref b190)]) _
  refine st195.trans ?_
  show GO p e below T195 (mkF m 48 #[.val (.ref a1), .val (.ref x1)] [(.ref b190)]) _
  refine XS.aloadN X195.here hx rfl (hb hby d14_48) rfl rfl ?_
  show GO p e below T195 (mkF m 49 #[.val (.ref a1), .val (.ref x1)] [(.ref x1), (.ref b190)]) _
  refine st202.trans ?_
  show GO p e below T202 (mkF m 52 #[.val (.ref a1), .val (.ref x1)] [(.ref b190)]) _
  refine st212 _ ?_
  show GO p e below T212 (mkF m 54 #[.val (.ref a1), .val (.ref x1)] [(.ref sa212), (.ref b190)]) _
  refine st217.trans ?_
  show GO p e below T217 (mkF m 57 #[.val (.ref a1), .val (.ref x1)] [(.ref b190)]) _
  refine st225.trans ?_
  show GO p e below T225 (mkF m 60 #[.val (.ref a1), .val (.ref x1)] [(.ref x_225)]) _
  exact retOut X225 hx Bd.returns rfl (Or.inr (Or.inr (Or.inr (Or.inr ⟨rfl, rfl, rfl⟩)))) (hb hby d14_60) hr
 ·show Qrm_cond0 Z x1 t1 k1 xs0 xs1 a1 o1 z0 h0 n0 _ T225.heap _
  rw [e225]
  exact ⟨x_225, t_225, k_225, rfl, N225, (((((((Keep.refl h0 []).ext E190).trans K195 (allS (P := fun x => x ∈ _ ∨ _) (Or.inr (by omega)) all0)).trans K202 (allS (P := fun x => x ∈ _ ∨ _) (Or.inr (by omega)) (allS (P := fun x => x ∈ _ ∨ _) (Or.inr (by omega)) all0))).ext E212).trans K217 (allS (P := fun x => x ∈ _ ∨ _) (Or.inr (by omega)) (allS (P := fun x => x ∈ _ ∨ _) (Or.inr (by omega)) all0))).trans K225 all0), p225_0, p225_1, p225_2, p225_4⟩
 ·show CHr Z EL1 s.vm s.heap T225.vm T225.heap
  rw [hh, e225]
  exact CE
def Qrm_sl10 (Z : State) (x1 : Addr) (t1 : Addr) (k1 : ClassId) (xs0 : Int32) (xs1 : Int32) (xs2 : Int32) (xs3 : Int32) (xs4 : Int32) (xs5 : Int32) (xs6 : Int32) (xs7 : Int32) (xs8 : Int32) (xs9 : Int32) (z0 : Int32) (h0 : Heap) (n0 : Nat) (v : Option Value) (h : Heap) (L : List Loc) : Prop := v = some (.int 10) ∧ Fr n0 L ∧ h = h0
theorem ef_rm_sl10 (m : MethodId) (x0 : Addr) : entryFrame m #[(.ref x0)] 1 = mkF m 0 #[.val (.ref x0)] [] := by first | rfl | (simp [entryFrame, mkF, argsToLocals, Value.category]; done)
theorem rm_sl10 (l : Launch) (Z : State) (a0 : Array Value) (hw : HW Z a0) (ws : List Jvm.Cond) (x1 : Addr) (t1 : Addr) (k1 : ClassId) (xs0 : Int32) (xs1 : Int32) (xs2 : Int32) (xs3 : Int32) (xs4 : Int32) (xs5 : Int32) (xs6 : Int32) (xs7 : Int32) (xs8 : Int32) (xs9 : Int32) (z0 : Int32) (h0 : Heap) (n0 : Nat) (Z0 : n0 ≤ h0.size) (O0 : Old Z n0 h0) (Esx1 : Exa Z h0 x1 kS1) (Fcx1 : Fld Z h0 x1 kS1 "coder" "B" (.int 0)) (Fvx1 : Fld Z h0 x1 kS1 "value" "[B" (.ref t1)) (Vsx1 : Arv Z h0 t1 k1 .byte (10 : Int32) [(.int xs0), (.int xs1), (.int xs2), (.int xs3), (.int xs4), (.int xs5), (.int xs6), (.int xs7), (.int xs8), (.int xs9)] (.int 0)) (SZc : Sta Z Z.heap kS1 "COMPACT_STRINGS" "Z" (.int z0)) (hz0 : ¬ z0 = 0) :
  OwnM l Z h0 (⟨kS1, "length", "()I"⟩ : MethodName) (Jvm.Cond.code (⟨kS1, "length", "()I"⟩ : MethodName) jdk_42_method_54_code 1 (some .int) :: ws) (RM 1 0 0 13) #[(.ref x1)] (Qrm_sl10 Z x1 t1 k1 xs0 xs1 xs2 xs3 xs4 xs5 xs6 xs7 xs8 xs9 z0 h0 n0) := by
 refine MetFree.of_bodySF (plainFor_of_name pn_1) hisR ?_
 intro p e s m args below meth c s₁ Bd hml0 hP hK
 obtain ⟨rfl, hZ, hh⟩ := hP
 have hx := Bd.exec
 have hby := Bd.bytes
 have hml : c.maxLocals = 1 := hml0
 have hown : s.vm.findClass kS1 = some m.cls := findClass_of_methodNamed Bd.named
 have hnm := (name_of_methodNamed Bd.named Bd.method).1
 have X0 : Stand p l e (RM 1 0 0 13) s m #[(.ref x1)] below meth c s₁ [] 0 0 := Stand.of_body Bd
 have e0 : s₁.heap = h0 := by rw [← hh, Bd.state]; rfl
 have N0 := Fr.nil n0
 have pre0 : ∀ t, GO p e below s₁ (mkF m 0 #[.val (.ref x1)] []) t → GO p e below s₁ (entryFrame m #[(.ref x1)] 1) t := fun t k => castTop (ef_rm_sl10 m x1) k
 have lt_Esx1 := ltA Esx1.lt
 have lt_Fcx1 := ltA Fcx1.lt
 have lt_Fvx1 := ltA Fvx1.lt
 have lt_Vsx1 := ltA Vsx1.lt
 obtain ⟨T228, X228, e228, st228⟩ := getF X0 hx hZ hown (host := "") (Or.inl (wd hw 28 rfl)) Via.refl e0 Fvx1 (g := (mkF m 1 #[.val (.ref x1)] [(.ref x1)])) rfl rfl (hb hby d20_1)
 obtain ⟨cl229, Ar229, -, S229, M229, -, -⟩ := id Vsx1
 -- pc 6: String.coder by rm_sc
 obtain ⟨cq230, kq230, q230a, q230b, q230c⟩ := isOf hZ e228 Esx1
 obtain ⟨_, _, ⟨T230, L230, k230, n230⟩, -, X230, ⟨Lc230, hQ230, l230, y230, z230⟩, st230⟩ := X228.virtualBack hx (y := (⟨kS1, "coder", "()B"⟩ : MethodName)) (z := (⟨kS1, "coder", "()B"⟩ : MethodName)) hown (mvT hZ (wd hw 110 rfl)) (mvT hZ (wd hw 111 rfl)) (notFace_of_selects (args := #[]) (mvT hZ (wd hw 113 rfl))) (mvT hZ (wd hw 113 rfl)) (mvT hZ (wd hw 112 rfl)) (by decide) (backOf (W := 1) (rm_sc l Z a0 hw [] x1 z0 h0 n0 Z0 O0 Fcx1 (by first | assumption | decide | omega) (by first | assumption | decide | omega)) hZ (wd hw 114 rfl) (wd hw 2 rfl) (by decide) (by decide)) q230a q230c (g := (mkF m 6 #[.val (.ref x1)] [(.ref x1), (.int 10)])) rfl (by rw [hml]; rfl) (Steps.refl _) (argsL := []) (rest := [(.int 10)]) (lenOf pd_7 rfl) rfl (wz rfl) (hb hby d20_6) (fun _ _ => ⟨rfl, e228, (by decide : 0 + 0 ≤ _), (by decide : 0 + 0 ≤ _)⟩)
 dsimp only [Pt.U, Pt.locs, Pt.cells, Pt.slots] at X230 l230 y230 z230 st230 hQ230
 rw [l230, y230, z230] at X230
 obtain ⟨rfl, N230q, e230⟩ := hQ230
 have N230 := Fr.app N0 N230q
 obtain ⟨fs, hr, hrun, hended, hW, hsame⟩ := X230.leave (v := some (.int 10)) (fun h => by rw [Bd.returns] at h; cases h)
 refine ⟨_, _, pre0 _ ?_, hrun, hended, _, _, rfl, ?_, ⟨_, rfl⟩, hW, hsame.mono (by decide) (by decide)⟩
 ·show GO p e below s₁ (mkF m 0 #[.val (.ref x1)] []) _
  refine XS.aloadN X0.here hx rfl (hb hby d20_0) rfl rfl ?_
  show GO p e below s₁ (mkF m 1 #[.val (.ref x1)] [(.ref x1)]) _
  refine st228 _ ?_
  show GO p e below T228 (mkF m 4 #[.val (.ref x1)] [(.ref t1)]) _
  refine X228.arraylength hx (by rw [e228]; exact Ar229.1) (State.isArrayOf_alike hZ.alike Ar229.2.1) (g := (mkF m 4 #[.val (.ref x1)] [(.ref t1)])) rfl rfl (hb hby d20_4) _ ?_
  rw [len_of S229 M229]
  show GO p e below T228 (mkF m 5 #[.val (.ref x1)] [(.int 10)]) _
  refine XS.aloadN X228.here hx rfl (hb hby d20_5) rfl rfl ?_
  show GO p e below T228 (mkF m 6 #[.val (.ref x1)] [(.ref x1), (.int 10)]) _
  refine st230.trans ?_
  show GO p e below T230 (mkF m 9 #[.val (.ref x1)] [(.int 0), (.int 10)]) _
  refine XS.ishr X230.here hx rfl (hb hby d20_9) rfl ?_
  rw [show ((10 : Int32) >>> ((0 : Int32) &&& 31)) = (10 : Int32) from by decide]
  show GO p e below T230 (mkF m 10 #[.val (.ref x1)] [(.int 10)]) _
  exact retI X230 hx Bd.returns (hb hby d20_10) hr
 ·show Qrm_sl10 Z x1 t1 k1 xs0 xs1 xs2 xs3 xs4 xs5 xs6 xs7 xs8 xs9 z0 h0 n0 _ T230.heap _
  rw [e230]
  exact ⟨rfl, N230, rfl⟩
def Qrm_gb_10_2_16 (Z : State) (x1 : Addr) (t1 : Addr) (k1 : ClassId) (xs0 : Int32) (xs1 : Int32) (xs2 : Int32) (xs3 : Int32) (xs4 : Int32) (xs5 : Int32) (xs6 : Int32) (xs7 : Int32) (xs8 : Int32) (xs9 : Int32) (d1 : Addr) (kd : ClassId) (xe0 : Int32) (xe1 : Int32) (z0 : Int32) (h0 : Heap) (n0 : Nat) (v : Option Value) (h : Heap) (L : List Loc) : Prop := v = none ∧ Fr n0 L ∧ Keep h0 h [d1] ∧ Arv Z h d1 kd .byte (16 : Int32) [(.int xe0), (.int xe1), (.int xs0), (.int xs1), (.int xs2), (.int xs3), (.int xs4), (.int xs5), (.int xs6), (.int xs7), (.int xs8), (.int xs9), (.int 0), (.int 0), (.int 0), (.int 0)] (.int 0)
theorem ef_rm_gb_10_2_16 (m : MethodId) (x0 : Addr) (x1 : Addr) (x2 : Int32) (x3 : Int32) : entryFrame m #[(.ref x0), (.ref x1), (.int x2), (.int x3)] 4 = mkF m 0 (la4 x0 x1 x2 x3) [] := by first | rfl | (simp [entryFrame, mkF, argsToLocals, Value.category]; done)
theorem rm_gb_10_2_16 (l : Launch) (Z : State) (a0 : Array Value) (hw : HW Z a0) (ws : List Jvm.Cond) (x1 : Addr) (t1 : Addr) (k1 : ClassId) (xs0 : Int32) (xs1 : Int32) (xs2 : Int32) (xs3 : Int32) (xs4 : Int32) (xs5 : Int32) (xs6 : Int32) (xs7 : Int32) (xs8 : Int32) (xs9 : Int32) (d1 : Addr) (kd : ClassId) (xe0 : Int32) (xe1 : Int32) (z0 : Int32) (h0 : Heap) (n0 : Nat) (Z0 : n0 ≤ h0.size) (O0 : Old Z n0 h0) (Esx1 : Exa Z h0 x1 kS1) (Fcx1 : Fld Z h0 x1 kS1 "coder" "B" (.int 0)) (Fvx1 : Fld Z h0 x1 kS1 "value" "[B" (.ref t1)) (Vsx1 : Arv Z h0 t1 k1 .byte (10 : Int32) [(.int xs0), (.int xs1), (.int xs2), (.int xs3), (.int xs4), (.int xs5), (.int xs6), (.int xs7), (.int xs8), (.int xs9)] (.int 0)) (Vd : Arv Z h0 d1 kd .byte (16 : Int32) [(.int xe0), (.int xe1), (.int 0), (.int 0), (.int 0), (.int 0), (.int 0), (.int 0), (.int 0), (.int 0), (.int 0), (.int 0), (.int 0), (.int 0), (.int 0), (.int 0)] (.int 0)) (SZc : Sta Z Z.heap kS1 "COMPACT_STRINGS" "Z" (.int z0)) (hz0 : ¬ z0 = 0) (gd : n0 ≤ d1) (ned : t1 ≠ d1) :
  OwnM l Z h0 (⟨kS1, "getBytes", "([BIB)V"⟩ : MethodName) (Jvm.Cond.code (⟨kS1, "getBytes", "([BIB)V"⟩ : MethodName) jdk_42_method_147_code 4 none :: ws) (RM 1 0 0 18) #[(.ref x1), (.ref d1), (.int 2), (.int 0)] (Qrm_gb_10_2_16 Z x1 t1 k1 xs0 xs1 xs2 xs3 xs4 xs5 xs6 xs7 xs8 xs9 d1 kd xe0 xe1 z0 h0 n0) := by
 refine MetFree.of_bodySF (plainFor_of_name pn_1) hisR ?_
 intro p e s m args below meth c s₁ Bd hml0 hP hK
 obtain ⟨rfl, hZ, hh⟩ := hP
 have hx := Bd.exec
 have hby := Bd.bytes
 have hml : c.maxLocals = 4 := hml0
 have hown : s.vm.findClass kS1 = some m.cls := findClass_of_methodNamed Bd.named
 have hnm := (name_of_methodNamed Bd.named Bd.method).1
 have X0 : Stand p l e (RM 1 0 0 18) s m #[(.ref x1), (.ref d1), (.int 2), (.int 0)] below meth c s₁ [] 0 0 := Stand.of_body Bd
 have e0 : s₁.heap = h0 := by rw [← hh, Bd.state]; rfl
 have N0 := Fr.nil n0
 have pre0 : ∀ t, GO p e below s₁ (mkF m 0 (la4 x1 d1 (2 : Int32) (0 : Int32)) []) t → GO p e below s₁ (entryFrame m #[(.ref x1), (.ref d1), (.int 2), (.int 0)] 4) t := fun t k => castTop (ef_rm_gb_10_2_16 m x1 d1 ((2 : Int32)) ((0 : Int32))) k
 have lt_Esx1 := ltA Esx1.lt
 have lt_Fcx1 := ltA Fcx1.lt
 have lt_Fvx1 := ltA Fvx1.lt
 have lt_Vsx1 := ltA Vsx1.lt
 have lt_Vd := ltA Vd.lt
 -- pc 1: String.coder by rm_sc
 obtain ⟨cq231, kq231, q231a, q231b, q231c⟩ := isOf hZ e0 Esx1
 obtain ⟨_, _, ⟨T231, L231, k231, n231⟩, -, X231, ⟨Lc231, hQ231, l231, y231, z231⟩, st231⟩ := X0.virtualBack hx (y := (⟨kS1, "coder", "()B"⟩ : MethodName)) (z := (⟨kS1, "coder", "()B"⟩ : MethodName)) hown (mvT hZ (wd hw 110 rfl)) (mvT hZ (wd hw 111 rfl)) (notFace_of_selects (args := #[]) (mvT hZ (wd hw 113 rfl))) (mvT hZ (wd hw 113 rfl)) (mvT hZ (wd hw 112 rfl)) (by decide) (backOf (W := 0) (rm_sc l Z a0 hw [] x1 z0 h0 n0 Z0 O0 Fcx1 (by first | assumption | decide | omega) (by first | assumption | decide | omega)) hZ (wd hw 114 rfl) (wd hw 2 rfl) (by decide) (by decide)) q231a q231c (g := (mkF m 1 (la4 x1 d1 (2 : Int32) (0 : Int32)) [(.ref x1)])) rfl (by rw [hml]; rfl) (Steps.refl _) (argsL := []) (rest := []) (lenOf pd_7 rfl) rfl (wz rfl) (hb hby d25_1) (fun _ _ => ⟨rfl, e0, (by decide : 0 + 0 ≤ _), (by decide : 0 + 0 ≤ _)⟩)
 dsimp only [Pt.U, Pt.locs, Pt.cells, Pt.slots] at X231 l231 y231 z231 st231 hQ231
 rw [l231, y231, z231] at X231
 obtain ⟨rfl, N231q, e231⟩ := hQ231
 have N231 := Fr.app N0 N231q
 obtain ⟨T232, X232, e232, st232⟩ := getF X231 hx hZ hown (host := "") (Or.inl (wd hw 28 rfl)) Via.refl e231 Fvx1 (g := (mkF m 9 (la4 x1 d1 (2 : Int32) (0 : Int32)) [(.ref x1)])) rfl rfl (hb hby d25_9)
 obtain ⟨T233, X233, e233, st233⟩ := getF X232 hx hZ hown (host := "") (Or.inl (wd hw 28 rfl)) Via.refl e232 Fvx1 (g := (mkF m 18 (la4 x1 d1 (2 : Int32) (0 : Int32)) [(.ref x1), (.int 2), (.ref d1), (.int 0), (.ref t1)])) rfl rfl (hb hby d25_18)
 obtain ⟨cl234, Ar234, -, S234, M234, -, -⟩ := id Vsx1
 obtain ⟨T235, h235, L235, X235, e235, N235, K235, A235, st235⟩ := cpA X233 hx hZ hown (wd hw 138 rfl) (wd hw 141 rfl) (wd hw 139 rfl) (wd hw 140 rfl) e233 Vsx1 Vd (us := [(.int xs0), (.int xs1), (.int xs2), (.int xs3), (.int xs4), (.int xs5), (.int xs6), (.int xs7), (.int xs8), (.int xs9)]) (Or.inl ⟨rfl, rfl⟩) (by decide) (by decide) (by decide) (by decide) (by decide) rfl (Nat.le_of_ble_eq_true rfl) N231 (by omega) (g := (mkF m 22 (la4 x1 d1 (2 : Int32) (0 : Int32)) [(.int 10), (.int 2), (.ref d1), (.int 0), (.ref t1)])) rfl (by rw [hml]; rfl) rfl (hb hby d25_22) (by decide) (W := 0) (wz rfl) (by decide)
 have sz235 : h0.size ≤ h235.size := K235.1
 have nz235 := Nat.le_trans Z0 sz235
 have V235 : Arv Z h235 d1 kd .byte (16 : Int32) [(.int xe0), (.int xe1), (.int xs0), (.int xs1), (.int xs2), (.int xs3), (.int xs4), (.int xs5), (.int xs6), (.int xs7), (.int xs8), (.int xs9), (.int 0), (.int 0), (.int 0), (.int 0)] (.int 0) := A235
 obtain ⟨fs, hr, hrun, hended, hW, hsame⟩ := X235.leave (v := none) (fun _ => rfl)
 refine ⟨_, _, pre0 _ ?_, hrun, hended, _, _, rfl, ?_, ⟨_, rfl⟩, hW, hsame.mono (by decide) (by decide)⟩
 ·show GO p e below s₁ (mkF m 0 (la4 x1 d1 (2 : Int32) (0 : Int32)) []) _
  refine XS.aloadN X0.here hx rfl (hb hby d25_0) rfl rfl ?_
  show GO p e below s₁ (mkF m 1 (la4 x1 d1 (2 : Int32) (0 : Int32)) [(.ref x1)]) _
  refine st231.trans ?_
  show GO p e below T231 (mkF m 4 (la4 x1 d1 (2 : Int32) (0 : Int32)) [(.int 0)]) _
  refine XS.iloadN X231.here hx rfl (hb hby d25_4) rfl ?_
  show GO p e below T231 (mkF m 5 (la4 x1 d1 (2 : Int32) (0 : Int32)) [(.int 0), (.int 0)]) _
  refine XS.icmpNo X231.here hx rfl (hb hby d25_5) rfl (teq (rfl : (0 : Int32) = (0 : Int32))).2 ?_
  show GO p e below T231 (mkF m 8 (la4 x1 d1 (2 : Int32) (0 : Int32)) []) _
  refine XS.aloadN X231.here hx rfl (hb hby d25_8) rfl rfl ?_
  show GO p e below T231 (mkF m 9 (la4 x1 d1 (2 : Int32) (0 : Int32)) [(.ref x1)]) _
  refine st232 _ ?_
  show GO p e below T232 (mkF m 12 (la4 x1 d1 (2 : Int32) (0 : Int32)) [(.ref t1)]) _
  refine XS.iconst X232.here hx rfl (hb hby d25_12) ?_
  show GO p e below T232 (mkF m 13 (la4 x1 d1 (2 : Int32) (0 : Int32)) [(.int 0), (.ref t1)]) _
  refine XS.aloadN X232.here hx rfl (hb hby d25_13) rfl rfl ?_
  show GO p e below T232 (mkF m 14 (la4 x1 d1 (2 : Int32) (0 : Int32)) [(.ref d1), (.int 0), (.ref t1)]) _
  refine XS.iloadN X232.here hx rfl (hb hby d25_14) rfl ?_
  show GO p e below T232 (mkF m 15 (la4 x1 d1 (2 : Int32) (0 : Int32)) [(.int 2), (.ref d1), (.int 0), (.ref t1)]) _
  refine XS.iloadN X232.here hx rfl (hb hby d25_15) rfl ?_
  show GO p e below T232 (mkF m 16 (la4 x1 d1 (2 : Int32) (0 : Int32)) [(.int 0), (.int 2), (.ref d1), (.int 0), (.ref t1)]) _
  refine XS.ishl X232.here hx rfl (hb hby d25_16) rfl ?_
  rw [show ((2 : Int32) <<< ((0 : Int32) &&& 31)) = (2 : Int32) from by decide]
  show GO p e below T232 (mkF m 17 (la4 x1 d1 (2 : Int32) (0 : Int32)) [(.int 2), (.ref d1), (.int 0), (.ref t1)]) _
  refine XS.aloadN X232.here hx rfl (hb hby d25_17) rfl rfl ?_
  show GO p e below T232 (mkF m 18 (la4 x1 d1 (2 : Int32) (0 : Int32)) [(.ref x1), (.int 2), (.ref d1), (.int 0), (.ref t1)]) _
  refine st233 _ ?_
  show GO p e below T233 (mkF m 21 (la4 x1 d1 (2 : Int32) (0 : Int32)) [(.ref t1), (.int 2), (.ref d1), (.int 0), (.ref t1)]) _
  refine X233.arraylength hx (by rw [e233]; exact Ar234.1) (State.isArrayOf_alike hZ.alike Ar234.2.1) (g := (mkF m 21 (la4 x1 d1 (2 : Int32) (0 : Int32)) [(.ref t1), (.int 2), (.ref d1), (.int 0), (.ref t1)])) rfl rfl (hb hby d25_21) _ ?_
  rw [len_of S234 M234]
  show GO p e below T233 (mkF m 22 (la4 x1 d1 (2 : Int32) (0 : Int32)) [(.int 10), (.int 2), (.ref d1), (.int 0), (.ref t1)]) _
  refine st235 _ ?_
  show GO p e below T235 (mkF m 25 (la4 x1 d1 (2 : Int32) (0 : Int32)) []) _
  refine XS.goto X235.here hx rfl (pc0 := 25) (pc' := 43) rfl (hb hby d25_25) (by decide) (by decide) ?_
  show GO p e below T235 (mkF m 43 (la4 x1 d1 (2 : Int32) (0 : Int32)) []) _
  exact X235.returnOut hx Bd.returns (hb hby d25_43) hr
 ·show Qrm_gb_10_2_16 Z x1 t1 k1 xs0 xs1 xs2 xs3 xs4 xs5 xs6 xs7 xs8 xs9 d1 kd xe0 xe1 z0 h0 n0 _ T235.heap _
  rw [e235]
  exact ⟨rfl, N235, ((Keep.refl h0 [d1]).trans K235 (allS (P := fun x => x ∈ _ ∨ _) (Or.inl (List.mem_of_getElem? (i := 0) rfl)) all0)), V235⟩
def Qrm_ps_10_2_16 (Z : State) (x1 : Addr) (t1 : Addr) (k1 : ClassId) (xs0 : Int32) (xs1 : Int32) (xs2 : Int32) (xs3 : Int32) (xs4 : Int32) (xs5 : Int32) (xs6 : Int32) (xs7 : Int32) (xs8 : Int32) (xs9 : Int32) (a1 : Addr) (d1 : Addr) (kd : ClassId) (xe0 : Int32) (xe1 : Int32) (z0 : Int32) (h0 : Heap) (n0 : Nat) (v : Option Value) (h : Heap) (L : List Loc) : Prop := v = none ∧ Fr n0 L ∧ Keep h0 h [d1] ∧ Arv Z h d1 kd .byte (16 : Int32) [(.int xe0), (.int xe1), (.int xs0), (.int xs1), (.int xs2), (.int xs3), (.int xs4), (.int xs5), (.int xs6), (.int xs7), (.int xs8), (.int xs9), (.int 0), (.int 0), (.int 0), (.int 0)] (.int 0)
theorem ef_rm_ps_10_2_16 (m : MethodId) (x0 : Addr) (x1 : Int32) (x2 : Addr) : entryFrame m #[(.ref x0), (.int x1), (.ref x2)] 3 = mkF m 0 (la5 x0 x1 x2) [] := by first | rfl | (simp [entryFrame, mkF, argsToLocals, Value.category]; done)
theorem rm_ps_10_2_16 (l : Launch) (Z : State) (a0 : Array Value) (hw : HW Z a0) (ws : List Jvm.Cond) (x1 : Addr) (t1 : Addr) (k1 : ClassId) (xs0 : Int32) (xs1 : Int32) (xs2 : Int32) (xs3 : Int32) (xs4 : Int32) (xs5 : Int32) (xs6 : Int32) (xs7 : Int32) (xs8 : Int32) (xs9 : Int32) (a1 : Addr) (d1 : Addr) (kd : ClassId) (xe0 : Int32) (xe1 : Int32) (z0 : Int32) (h0 : Heap) (n0 : Nat) (Z0 : n0 ≤ h0.size) (O0 : Old Z n0 h0) (Esx1 : Exa Z h0 x1 kS1) (Fcx1 : Fld Z h0 x1 kS1 "coder" "B" (.int 0)) (Fvx1 : Fld Z h0 x1 kS1 "value" "[B" (.ref t1)) (Vsx1 : Arv Z h0 t1 k1 .byte (10 : Int32) [(.int xs0), (.int xs1), (.int xs2), (.int xs3), (.int xs4), (.int xs5), (.int xs6), (.int xs7), (.int xs8), (.int xs9)] (.int 0)) (Eb : Exa Z h0 a1 kS2) (Fbv : Fld Z h0 a1 kS0 "value" "[B" (.ref d1)) (Fbc : Fld Z h0 a1 kS0 "coder" "B" (.int 0)) (Fbn : Fld Z h0 a1 kS0 "count" "I" (.int 2)) (Vb : Arv Z h0 d1 kd .byte (16 : Int32) [(.int xe0), (.int xe1), (.int 0), (.int 0), (.int 0), (.int 0), (.int 0), (.int 0), (.int 0), (.int 0), (.int 0), (.int 0), (.int 0), (.int 0), (.int 0), (.int 0)] (.int 0)) (SZc : Sta Z Z.heap kS1 "COMPACT_STRINGS" "Z" (.int z0)) (hz0 : ¬ z0 = 0) (gd : n0 ≤ d1) (ned : t1 ≠ d1) :
  OwnM l Z h0 (⟨kS0, "putStringAt", "(ILjava/lang/String;)V"⟩ : MethodName) (Jvm.Cond.code (⟨kS0, "putStringAt", "(ILjava/lang/String;)V"⟩ : MethodName) jdk_68_method_73_code 3 none :: ws) (RM 2 0 0 33) #[(.ref a1), (.int 2), (.ref x1)] (Qrm_ps_10_2_16 Z x1 t1 k1 xs0 xs1 xs2 xs3 xs4 xs5 xs6 xs7 xs8 xs9 a1 d1 kd xe0 xe1 z0 h0 n0) := by
 refine MetFree.of_bodySF (plainFor_of_name pn_6) hisR ?_
 intro p e s m args below meth c s₁ Bd hml0 hP hK
 obtain ⟨rfl, hZ, hh⟩ := hP
 have hx := Bd.exec
 have hby := Bd.bytes
 have hml : c.maxLocals = 3 := hml0
 have hown : s.vm.findClass kS0 = some m.cls := findClass_of_methodNamed Bd.named
 have hnm := (name_of_methodNamed Bd.named Bd.method).1
 have X0 : Stand p l e (RM 2 0 0 33) s m #[(.ref a1), (.int 2), (.ref x1)] below meth c s₁ [] 0 0 := Stand.of_body Bd
 have e0 : s₁.heap = h0 := by rw [← hh, Bd.state]; rfl
 have N0 := Fr.nil n0
 have pre0 : ∀ t, GO p e below s₁ (mkF m 0 (la5 a1 (2 : Int32) x1) []) t → GO p e below s₁ (entryFrame m #[(.ref a1), (.int 2), (.ref x1)] 3) t := fun t k => castTop (ef_rm_ps_10_2_16 m a1 ((2 : Int32)) x1) k
 have lt_Esx1 := ltA Esx1.lt
 have lt_Fcx1 := ltA Fcx1.lt
 have lt_Fvx1 := ltA Fvx1.lt
 have lt_Vsx1 := ltA Vsx1.lt
 have lt_Eb := ltA Eb.lt
 have lt_Fbv := ltA Fbv.lt
 have lt_Fbc := ltA Fbc.lt
 have lt_Fbn := ltA Fbn.lt
 have lt_Vb := ltA Vb.lt
 -- pc 2: AbstractStringBuilder.inflateIfNeededFor by rm_inf
 obtain ⟨cq236, q236a, q236b⟩ := Eb.cell
 obtain ⟨_, _, ⟨T236, L236, k236, n236⟩, -, X236, ⟨Lc236, hQ236, l236, y236, z236⟩, st236⟩ := X0.privateBack hx (y := (⟨kS0, "inflateIfNeededFor", "(Ljava/lang/String;)V"⟩ : MethodName)) hown (mvT hZ (wd hw 127 rfl)) (mvT hZ (wd hw 128 rfl)) (mvT hZ (own_selfsel (wd hw 130 rfl) (wd hw 129 rfl) (wd hw 128 rfl) (by decide))) (Cond.privateMethod_at (mvP hZ (wd hw 129 rfl) (args := #[]))) (mvT hZ (wd hw 131 rfl)) (by decide) (backOf (W := 0) (rm_inf l Z a0 hw [] a1 x1 z0 h0 n0 Z0 O0 Fbc Esx1 Fcx1 (by first | assumption | decide | omega) (by first | assumption | decide | omega)) hZ (wd hw 131 rfl) (wd hw 87 rfl) (by decide) (by decide)) (g := (mkF m 2 (la5 a1 (2 : Int32) x1) [(.ref x1), (.ref a1)])) rfl (by rw [hml]; rfl) (Steps.refl _) (a := a1) (by rw [e0]; exact q236a) q236b (argsL := [(.ref x1)]) (rest := []) (lenOf pd_8 rfl) rfl (wz rfl) (hb hby d23_2) (fun _ _ => ⟨rfl, e0, (by decide : 0 + 0 ≤ _), (by decide : 0 + 0 ≤ _)⟩)
 dsimp only [Pt.U, Pt.locs, Pt.cells, Pt.slots] at X236 l236 y236 z236 st236 hQ236
 rw [l236, y236, z236] at X236
 obtain ⟨rfl, N236q, e236⟩ := hQ236
 have N236 := Fr.app N0 N236q
 obtain ⟨T237, X237, e237, st237⟩ := getF X236 hx hZ hown (host := "") (Or.inl (wd hw 91 rfl)) Via.refl e236 Fbv (g := (mkF m 7 (la5 a1 (2 : Int32) x1) [(.ref a1), (.ref x1)])) rfl rfl (hb hby d23_7)
 obtain ⟨T238, X238, e238, st238⟩ := getF X237 hx hZ hown (host := "") (Or.inl (wd hw 93 rfl)) Via.refl e237 Fbc (g := (mkF m 12 (la5 a1 (2 : Int32) x1) [(.ref a1), (.int 2), (.ref d1), (.ref x1)])) rfl rfl (hb hby d23_12)
 -- pc 15: String.getBytes by rm_gb_10_2_16
 obtain ⟨cq239, kq239, q239a, q239b, q239c⟩ := isOf hZ e238 Esx1
 obtain ⟨_, _, ⟨T239, L239, k239, n239⟩, -, X239, ⟨Lc239, hQ239, l239, y239, z239⟩, st239⟩ := X238.virtualBack hx (y := (⟨kS1, "getBytes", "([BIB)V"⟩ : MethodName)) (z := (⟨kS1, "getBytes", "([BIB)V"⟩ : MethodName)) hown (mvT hZ (wd hw 133 rfl)) (mvT hZ (wd hw 134 rfl)) (notFace_of_selects (args := #[]) (mvT hZ (wd hw 136 rfl))) (mvT hZ (wd hw 136 rfl)) (mvT hZ (wd hw 135 rfl)) (by decide) (backOf (W := 0) (rm_gb_10_2_16 l Z a0 hw [] x1 t1 k1 xs0 xs1 xs2 xs3 xs4 xs5 xs6 xs7 xs8 xs9 d1 kd xe0 xe1 z0 h0 n0 Z0 O0 Esx1 Fcx1 Fvx1 Vsx1 Vb (by first | assumption | decide | omega) (by first | assumption | decide | omega) (by first | assumption | decide | omega) ned) hZ (wd hw 137 rfl) (wd hw 2 rfl) (by decide) (by decide)) q239a q239c (g := (mkF m 15 (la5 a1 (2 : Int32) x1) [(.int 0), (.int 2), (.ref d1), (.ref x1)])) rfl (by rw [hml]; rfl) (Steps.refl _) (argsL := [(.ref d1), (.int 2), (.int 0)]) (rest := []) (lenOf pd_9 rfl) rfl (wz rfl) (hb hby d23_15) (fun _ _ => ⟨rfl, e238, (by decide : 0 + 0 ≤ _), (by decide : 0 + 0 ≤ _)⟩)
 dsimp only [Pt.U, Pt.locs, Pt.cells, Pt.slots] at X239 l239 y239 z239 st239 hQ239
 rw [l239, y239, z239] at X239
 obtain ⟨h239, e239⟩ : ∃ z, T239.heap = z := ⟨_, rfl⟩
 rw [e239] at hQ239
 obtain ⟨rfl, N239q, K239, p239_0⟩ := hQ239
 have N239 := Fr.app N236 N239q
 have sz239 : h0.size ≤ h239.size := K239.1
 have nz239 := Nat.le_trans Z0 sz239
 have lt239_0 := ltA p239_0.lt
 obtain ⟨fs, hr, hrun, hended, hW, hsame⟩ := X239.leave (v := none) (fun _ => rfl)
 refine ⟨_, _, pre0 _ ?_, hrun, hended, _, _, rfl, ?_, ⟨_, rfl⟩, hW, hsame.mono (by decide) (by decide)⟩
 ·show GO p e below s₁ (mkF m 0 (la5 a1 (2 : Int32) x1) []) _
  refine XS.aloadN X0.here hx rfl (hb hby d23_0) rfl rfl ?_
  show GO p e below s₁ (mkF m 1 (la5 a1 (2 : Int32) x1) [(.ref a1)]) _
  refine XS.aloadN X0.here hx rfl (hb hby d23_1) rfl rfl ?_
  show GO p e below s₁ (mkF m 2 (la5 a1 (2 : Int32) x1) [(.ref x1), (.ref a1)]) _
  refine st236.trans ?_
  show GO p e below T236 (mkF m 5 (la5 a1 (2 : Int32) x1) []) _
  refine XS.aloadN X236.here hx rfl (hb hby d23_5) rfl rfl ?_
  show GO p e below T236 (mkF m 6 (la5 a1 (2 : Int32) x1) [(.ref x1)]) _
  refine XS.aloadN X236.here hx rfl (hb hby d23_6) rfl rfl ?_
  show GO p e below T236 (mkF m 7 (la5 a1 (2 : Int32) x1) [(.ref a1), (.ref x1)]) _
  refine st237 _ ?_
  show GO p e below T237 (mkF m 10 (la5 a1 (2 : Int32) x1) [(.ref d1), (.ref x1)]) _
  refine XS.iloadN X237.here hx rfl (hb hby d23_10) rfl ?_
  show GO p e below T237 (mkF m 11 (la5 a1 (2 : Int32) x1) [(.int 2), (.ref d1), (.ref x1)]) _
  refine XS.aloadN X237.here hx rfl (hb hby d23_11) rfl rfl ?_
  show GO p e below T237 (mkF m 12 (la5 a1 (2 : Int32) x1) [(.ref a1), (.int 2), (.ref d1), (.ref x1)]) _
  refine st238 _ ?_
  show GO p e below T238 (mkF m 15 (la5 a1 (2 : Int32) x1) [(.int 0), (.int 2), (.ref d1), (.ref x1)]) _
  refine st239.trans ?_
  show GO p e below T239 (mkF m 18 (la5 a1 (2 : Int32) x1) []) _
  exact X239.returnOut hx Bd.returns (hb hby d23_18) hr
 ·show Qrm_ps_10_2_16 Z x1 t1 k1 xs0 xs1 xs2 xs3 xs4 xs5 xs6 xs7 xs8 xs9 a1 d1 kd xe0 xe1 z0 h0 n0 _ T239.heap _
  rw [e239]
  exact ⟨rfl, N239, ((Keep.refl h0 [d1]).trans K239 (allS (P := fun x => x ∈ _ ∨ _) (Or.inl (List.mem_of_getElem? (i := 0) rfl)) all0)), p239_0⟩
def Qrm_aa_10_2_16 (Z : State) (x1 : Addr) (t1 : Addr) (k1 : ClassId) (xs0 : Int32) (xs1 : Int32) (xs2 : Int32) (xs3 : Int32) (xs4 : Int32) (xs5 : Int32) (xs6 : Int32) (xs7 : Int32) (xs8 : Int32) (xs9 : Int32) (a1 : Addr) (d1 : Addr) (kd : ClassId) (xe0 : Int32) (xe1 : Int32) (z0 : Int32) (h0 : Heap) (n0 : Nat) (v : Option Value) (h : Heap) (L : List Loc) : Prop := v = some (.ref a1) ∧ Fr n0 L ∧ Keep h0 h [a1, d1] ∧ Exa Z h a1 kS2 ∧ Fld Z h a1 kS0 "value" "[B" (.ref d1) ∧ Fld Z h a1 kS0 "coder" "B" (.int 0) ∧ Fld Z h a1 kS0 "count" "I" (.int 12) ∧ Arv Z h d1 kd .byte (16 : Int32) [(.int xe0), (.int xe1), (.int xs0), (.int xs1), (.int xs2), (.int xs3), (.int xs4), (.int xs5), (.int xs6), (.int xs7), (.int xs8), (.int xs9), (.int 0), (.int 0), (.int 0), (.int 0)] (.int 0)
theorem ef_rm_aa_10_2_16 (m : MethodId) (x0 : Addr) (x1 : Addr) : entryFrame m #[(.ref x0), (.ref x1)] 3 = mkF m 0 (la6 x0 x1) [] := by first | rfl | (simp [entryFrame, mkF, argsToLocals, Value.category]; done)
theorem rm_aa_10_2_16 (l : Launch) (Z : State) (a0 : Array Value) (hw : HW Z a0) (ws : List Jvm.Cond) (x1 : Addr) (t1 : Addr) (k1 : ClassId) (xs0 : Int32) (xs1 : Int32) (xs2 : Int32) (xs3 : Int32) (xs4 : Int32) (xs5 : Int32) (xs6 : Int32) (xs7 : Int32) (xs8 : Int32) (xs9 : Int32) (a1 : Addr) (d1 : Addr) (kd : ClassId) (xe0 : Int32) (xe1 : Int32) (z0 : Int32) (h0 : Heap) (n0 : Nat) (Z0 : n0 ≤ h0.size) (O0 : Old Z n0 h0) (Esx1 : Exa Z h0 x1 kS1) (Fcx1 : Fld Z h0 x1 kS1 "coder" "B" (.int 0)) (Fvx1 : Fld Z h0 x1 kS1 "value" "[B" (.ref t1)) (Vsx1 : Arv Z h0 t1 k1 .byte (10 : Int32) [(.int xs0), (.int xs1), (.int xs2), (.int xs3), (.int xs4), (.int xs5), (.int xs6), (.int xs7), (.int xs8), (.int xs9)] (.int 0)) (Eb : Exa Z h0 a1 kS2) (Fbv : Fld Z h0 a1 kS0 "value" "[B" (.ref d1)) (Fbc : Fld Z h0 a1 kS0 "coder" "B" (.int 0)) (Fbn : Fld Z h0 a1 kS0 "count" "I" (.int 2)) (Vb : Arv Z h0 d1 kd .byte (16 : Int32) [(.int xe0), (.int xe1), (.int 0), (.int 0), (.int 0), (.int 0), (.int 0), (.int 0), (.int 0), (.int 0), (.int 0), (.int 0), (.int 0), (.int 0), (.int 0), (.int 0)] (.int 0)) (SZc : Sta Z Z.heap kS1 "COMPACT_STRINGS" "Z" (.int z0)) (hz0 : ¬ z0 = 0) (ga : n0 ≤ a1) (gd : n0 ≤ d1) (ned : t1 ≠ d1) :
  OwnM l Z h0 (⟨kS0, "append", "(Ljava/lang/String;)Ljava/lang/AbstractStringBuilder;"⟩ : MethodName) (Jvm.Cond.code (⟨kS0, "append", "(Ljava/lang/String;)Ljava/lang/AbstractStringBuilder;"⟩ : MethodName) jdk_68_method_22_code 3 (some (.object kS0)) :: ws) (RM 3 0 0 47) #[(.ref a1), (.ref x1)] (Qrm_aa_10_2_16 Z x1 t1 k1 xs0 xs1 xs2 xs3 xs4 xs5 xs6 xs7 xs8 xs9 a1 d1 kd xe0 xe1 z0 h0 n0) := by
 refine MetFree.of_bodySF (plainFor_of_name pn_6) hisR ?_
 intro p e s m args below meth c s₁ Bd hml0 hP hK
 obtain ⟨rfl, hZ, hh⟩ := hP
 have hx := Bd.exec
 have hby := Bd.bytes
 have hml : c.maxLocals = 3 := hml0
 have hown : s.vm.findClass kS0 = some m.cls := findClass_of_methodNamed Bd.named
 have hnm := (name_of_methodNamed Bd.named Bd.method).1
 have X0 : Stand p l e (RM 3 0 0 47) s m #[(.ref a1), (.ref x1)] below meth c s₁ [] 0 0 := Stand.of_body Bd
 have e0 : s₁.heap = h0 := by rw [← hh, Bd.state]; rfl
 have N0 := Fr.nil n0
 have pre0 : ∀ t, GO p e below s₁ (mkF m 0 (la6 a1 x1) []) t → GO p e below s₁ (entryFrame m #[(.ref a1), (.ref x1)] 3) t := fun t k => castTop (ef_rm_aa_10_2_16 m a1 x1) k
 have lt_Esx1 := ltA Esx1.lt
 have lt_Fcx1 := ltA Fcx1.lt
 have lt_Fvx1 := ltA Fvx1.lt
 have lt_Vsx1 := ltA Vsx1.lt
 have lt_Eb := ltA Eb.lt
 have lt_Fbv := ltA Fbv.lt
 have lt_Fbc := ltA Fbc.lt
 have lt_Fbn := ltA Fbn.lt
 have lt_Vb := ltA Vb.lt
 -- pc 10: String.length by rm_sl10
 obtain ⟨cq240, kq240, q240a, q240b, q240c⟩ := isOf hZ e0 Esx1
 obtain ⟨_, _, ⟨T240, L240, k240, n240⟩, -, X240, ⟨Lc240, hQ240, l240, y240, z240⟩, st240⟩ := X0.virtualBack hx (y := (⟨kS1, "length", "()I"⟩ : MethodName)) (z := (⟨kS1, "length", "()I"⟩ : MethodName)) hown (mvT hZ (wd hw 105 rfl)) (mvT hZ (wd hw 106 rfl)) (notFace_of_selects (args := #[]) (mvT hZ (wd hw 108 rfl))) (mvT hZ (wd hw 108 rfl)) (mvT hZ (wd hw 107 rfl)) (by decide) (backOf (W := 0) (rm_sl10 l Z a0 hw [] x1 t1 k1 xs0 xs1 xs2 xs3 xs4 xs5 xs6 xs7 xs8 xs9 z0 h0 n0 Z0 O0 Esx1 Fcx1 Fvx1 Vsx1 (by first | assumption | decide | omega) (by first | assumption | decide | omega)) hZ (wd hw 109 rfl) (wd hw 2 rfl) (by decide) (by decide)) q240a q240c (g := (mkF m 10 (la6 a1 x1) [(.ref x1)])) rfl (by rw [hml]; rfl) (Steps.refl _) (argsL := []) (rest := []) (lenOf pd_10 rfl) rfl (wz rfl) (hb hby d19_10) (fun _ _ => ⟨rfl, e0, (by decide : 0 + 0 ≤ _), (by decide : 0 + 0 ≤ _)⟩)
 dsimp only [Pt.U, Pt.locs, Pt.cells, Pt.slots] at X240 l240 y240 z240 st240 hQ240
 rw [l240, y240, z240] at X240
 obtain ⟨rfl, N240q, e240⟩ := hQ240
 have N240 := Fr.app N0 N240q
 obtain ⟨T241, X241, e241, st241⟩ := getF X240 hx hZ hown (host := "") (Or.inl (wd hw 115 rfl)) Via.refl e240 Fbn (g := (mkF m 16 (la0 a1 x1 (10 : Int32)) [(.ref a1), (.ref a1)])) rfl rfl (hb hby d19_16)
 -- pc 21: AbstractStringBuilder.ensureCapacityInternal by rm_en_16
 obtain ⟨cq242, q242a, q242b⟩ := Eb.cell
 obtain ⟨_, _, ⟨T242, L242, k242, n242⟩, -, X242, ⟨Lc242, hQ242, l242, y242, z242⟩, st242⟩ := X241.privateBack hx (y := (⟨kS0, "ensureCapacityInternal", "(I)V"⟩ : MethodName)) hown (mvT hZ (wd hw 117 rfl)) (mvT hZ (wd hw 118 rfl)) (mvT hZ (own_selfsel (wd hw 120 rfl) (wd hw 119 rfl) (wd hw 118 rfl) (by decide))) (Cond.privateMethod_at (mvP hZ (wd hw 119 rfl) (args := #[]))) (mvT hZ (wd hw 121 rfl)) (by decide) (backOf (W := 0) (rm_en_16 l Z a0 hw [] a1 d1 kd ([(.int xe0), (.int xe1), (.int 0), (.int 0), (.int 0), (.int 0), (.int 0), (.int 0), (.int 0), (.int 0), (.int 0), (.int 0), (.int 0), (.int 0), (.int 0), (.int 0)]) (12 : Int32) h0 n0 Z0 Fbv Fbc Vb (by decide)) hZ (wd hw 121 rfl) (wd hw 87 rfl) (by decide) (by decide)) (g := (mkF m 21 (la0 a1 x1 (10 : Int32)) [(.int 12), (.ref a1)])) rfl (by rw [hml]; rfl) (Steps.refl _) (a := a1) (by rw [e241]; exact q242a) q242b (argsL := [(.int 12)]) (rest := []) (lenOf pd_6 rfl) rfl (wz rfl) (hb hby d19_21) (fun _ _ => ⟨rfl, e241, (by decide : 0 + 0 ≤ _), (by decide : 0 + 0 ≤ _)⟩)
 dsimp only [Pt.U, Pt.locs, Pt.cells, Pt.slots] at X242 l242 y242 z242 st242 hQ242
 rw [l242, y242, z242] at X242
 obtain ⟨rfl, N242q, e242⟩ := hQ242
 have N242 := Fr.app N240 N242q
 obtain ⟨T243, X243, e243, st243⟩ := getF X242 hx hZ hown (host := "") (Or.inl (wd hw 115 rfl)) Via.refl e242 Fbn (g := (mkF m 26 (la0 a1 x1 (10 : Int32)) [(.ref a1), (.ref a1)])) rfl rfl (hb hby d19_26)
 -- pc 30: AbstractStringBuilder.putStringAt by rm_ps_10_2_16
 obtain ⟨cq244, q244a, q244b⟩ := Eb.cell
 obtain ⟨_, _, ⟨T244, L244, k244, n244⟩, -, X244, ⟨Lc244, hQ244, l244, y244, z244⟩, st244⟩ := X243.privateBack hx (y := (⟨kS0, "putStringAt", "(ILjava/lang/String;)V"⟩ : MethodName)) hown (mvT hZ (wd hw 122 rfl)) (mvT hZ (wd hw 123 rfl)) (mvT hZ (own_selfsel (wd hw 125 rfl) (wd hw 124 rfl) (wd hw 123 rfl) (by decide))) (Cond.privateMethod_at (mvP hZ (wd hw 124 rfl) (args := #[]))) (mvT hZ (wd hw 126 rfl)) (by decide) (backOf (W := 0) (rm_ps_10_2_16 l Z a0 hw [] x1 t1 k1 xs0 xs1 xs2 xs3 xs4 xs5 xs6 xs7 xs8 xs9 a1 d1 kd xe0 xe1 z0 h0 n0 Z0 O0 Esx1 Fcx1 Fvx1 Vsx1 Eb Fbv Fbc Fbn Vb (by first | assumption | decide | omega) (by first | assumption | decide | omega) (by first | assumption | decide | omega) ned) hZ (wd hw 126 rfl) (wd hw 87 rfl) (by decide) (by decide)) (g := (mkF m 30 (la0 a1 x1 (10 : Int32)) [(.ref x1), (.int 2), (.ref a1)])) rfl (by rw [hml]; rfl) (Steps.refl _) (a := a1) (by rw [e243]; exact q244a) q244b (argsL := [(.int 2), (.ref x1)]) (rest := []) (lenOf pd_11 rfl) rfl (wz rfl) (hb hby d19_30) (fun _ _ => ⟨rfl, e243, (by decide : 0 + 0 ≤ _), (by decide : 0 + 0 ≤ _)⟩)
 dsimp only [Pt.U, Pt.locs, Pt.cells, Pt.slots] at X244 l244 y244 z244 st244 hQ244
 rw [l244, y244, z244] at X244
 obtain ⟨h244, e244⟩ : ∃ z, T244.heap = z := ⟨_, rfl⟩
 rw [e244] at hQ244
 obtain ⟨rfl, N244q, K244, p244_0⟩ := hQ244
 have N244 := Fr.app N242 N244q
 have ne245 : d1 ≠ x1 := Ne.symm (Exa.neArv Esx1 Vb (wd hw 1 rfl))
 have ne246 : d1 ≠ a1 := Ne.symm (Exa.neArv Eb Vb (wd hw 78 rfl))
 have sz244 : h0.size ≤ h244.size := K244.1
 have nz244 := Nat.le_trans Z0 sz244
 have lt244_0 := ltA p244_0.lt
 have f247 : Fld Z h244 a1 kS0 "count" "I" (.int 2) := (Fbn.keep K244 (ninS (Ne.symm ne246) nin0))
 obtain ⟨T248, X248, e248, st248⟩ := getF X244 hx hZ hown (host := "") (Or.inl (wd hw 115 rfl)) Via.refl e244 f247 (g := (mkF m 35 (la0 a1 x1 (10 : Int32)) [(.ref a1), (.ref a1)])) rfl rfl (hb hby d19_35)
 have f249 : Exa Z h244 a1 kS2 := (Eb.keep K244)
 obtain ⟨T250, h250, X250, e250, W250, st250⟩ := putF X248 hx hZ hown (host := "") (Or.inl (wd hw 115 rfl)) Via.refl e248 f247 f249 (Or.inl (wd hw 116 rfl)) (wd hw 78 rfl) (ty := .int) (by decide) rfl rfl (g := (mkF m 40 (la0 a1 x1 (10 : Int32)) [(.int 12), (.ref a1)])) rfl rfl (hb hby d19_40)
 have ge251 : n0 ≤ a1 := by omega
 have N250 := Fr.snoc X250 N244 ge251
 have f252 : Exa Z h244 x1 kS1 := (Esx1.keep K244)
 have ne253 : a1 ≠ x1 := ne_exa f249 f252 (by decide)
 have f254 : Arv Z h244 t1 k1 .byte (10 : Int32) [(.int xs0), (.int xs1), (.int xs2), (.int xs3), (.int xs4), (.int xs5), (.int xs6), (.int xs7), (.int xs8), (.int xs9)] (.int 0) := (Vsx1.keep K244 (ninS ned nin0))
 have ne255 : a1 ≠ t1 := Exa.neArv f249 f254 (wd hw 78 rfl)
 have sz250 : h244.size ≤ h250.size := Nat.le_of_eq W250.size.symm
 have nz250 := Nat.le_trans nz244 sz250
 have f250 : Fld Z h250 a1 kS0 "count" "I" (.int 12) := f247.same W250
 have f256 : Exa Z h250 a1 kS2 := (f249.wr W250)
 have f257 : Fld Z h250 a1 kS0 "value" "[B" (.ref d1) := ((Fbv.keep K244 (ninS (Ne.symm ne246) nin0)).other W250 (Or.inr (slot_ne (Or.inl (wd hw 92 rfl)) (Or.inl (wd hw 116 rfl)) (by decide) (t := (.array .byte)) (t' := .int) (by decide) (by decide))))
 have f258 : Fld Z h250 a1 kS0 "coder" "B" (.int 0) := ((Fbc.keep K244 (ninS (Ne.symm ne246) nin0)).other W250 (Or.inr (slot_ne (Or.inl (wd hw 94 rfl)) (Or.inl (wd hw 116 rfl)) (by decide) (t := .byte) (t' := .int) (by decide) (by decide))))
 have f259 : Arv Z h250 d1 kd .byte (16 : Int32) [(.int xe0), (.int xe1), (.int xs0), (.int xs1), (.int xs2), (.int xs3), (.int xs4), (.int xs5), (.int xs6), (.int xs7), (.int xs8), (.int xs9), (.int 0), (.int 0), (.int 0), (.int 0)] (.int 0) := (p244_0.other W250 ne246)
 obtain ⟨fs, hr, hrun, hended, hW, hsame⟩ := X250.leave (v := some (.ref a1)) (fun h => by rw [Bd.returns] at h; cases h)
 refine ⟨_, _, pre0 _ ?_, hrun, hended, _, _, rfl, ?_, ⟨_, rfl⟩, hW, hsame.mono (by decide) (by decide)⟩
 ·show GO p e below s₁ (mkF m 0 (la6 a1 x1) []) _
  refine XS.aloadN X0.here hx rfl (hb hby d19_0) rfl rfl ?_
  show GO p e below s₁ (mkF m 1 (la6 a1 x1) [(.ref x1)]) _
  refine XS.ifnonnullYes X0.here hx rfl (pc0 := 1) (pc' := 9) rfl (hb hby d19_1) rfl (by decide) (by decide) ?_
  show GO p e below s₁ (mkF m 9 (la6 a1 x1) []) _
  refine XS.aloadN X0.here hx rfl (hb hby d19_9) rfl rfl ?_
  show GO p e below s₁ (mkF m 10 (la6 a1 x1) [(.ref x1)]) _
  refine st240.trans ?_
  show GO p e below T240 (mkF m 13 (la6 a1 x1) [(.int 10)]) _
  refine XS.istoreN X240.here hx rfl (hb hby d19_13) rfl (l' := (la0 a1 x1 (10 : Int32))) rfl ?_
  show GO p e below T240 (mkF m 14 (la0 a1 x1 (10 : Int32)) []) _
  refine XS.aloadN X240.here hx rfl (hb hby d19_14) rfl rfl ?_
  show GO p e below T240 (mkF m 15 (la0 a1 x1 (10 : Int32)) [(.ref a1)]) _
  refine XS.aloadN X240.here hx rfl (hb hby d19_15) rfl rfl ?_
  show GO p e below T240 (mkF m 16 (la0 a1 x1 (10 : Int32)) [(.ref a1), (.ref a1)]) _
  refine st241 _ ?_
  show GO p e below T241 (mkF m 19 (la0 a1 x1 (10 : Int32)) [(.int 2), (.ref a1)]) _
  refine XS.iloadN X241.here hx rfl (hb hby d19_19) rfl ?_
  show GO p e below T241 (mkF m 20 (la0 a1 x1 (10 : Int32)) [(.int 10), (.int 2), (.ref a1)]) _
  refine XS.iadd X241.here hx rfl (hb hby d19_20) rfl ?_
  rw [show ((2 : Int32) + (10 : Int32)) = (12 : Int32) from by decide]
  show GO p e below T241 (mkF m 21 (la0 a1 x1 (10 : Int32)) [(.int 12), (.ref a1)]) _
  refine st242.trans ?_
  show GO p e below T242 (mkF m 24 (la0 a1 x1 (10 : Int32)) []) _
  refine XS.aloadN X242.here hx rfl (hb hby d19_24) rfl rfl ?_
  show GO p e below T242 (mkF m 25 (la0 a1 x1 (10 : Int32)) [(.ref a1)]) _
  refine XS.aloadN X242.here hx rfl (hb hby d19_25) rfl rfl ?_
  show GO p e below T242 (mkF m 26 (la0 a1 x1 (10 : Int32)) [(.ref a1), (.ref a1)]) _
  refine st243 _ ?_
  show GO p e below T243 (mkF m 29 (la0 a1 x1 (10 : Int32)) [(.int 2), (.ref a1)]) _
  refine XS.aloadN X243.here hx rfl (hb hby d19_29) rfl rfl ?_
  show GO p e below T243 (mkF m 30 (la0 a1 x1 (10 : Int32)) [(.ref x1), (.int 2), (.ref a1)]) _
  refine st244.trans ?_
  show GO p e below T244 (mkF m 33 (la0 a1 x1 (10 : Int32)) []) _
  refine XS.aloadN X244.here hx rfl (hb hby d19_33) rfl rfl ?_
  show GO p e below T244 (mkF m 34 (la0 a1 x1 (10 : Int32)) [(.ref a1)]) _
  refine XS.dup X244.here hx rfl (hb hby d19_34) rfl rfl ?_
  show GO p e below T244 (mkF m 35 (la0 a1 x1 (10 : Int32)) [(.ref a1), (.ref a1)]) _
  refine st248 _ ?_
  show GO p e below T248 (mkF m 38 (la0 a1 x1 (10 : Int32)) [(.int 2), (.ref a1)]) _
  refine XS.iloadN X248.here hx rfl (hb hby d19_38) rfl ?_
  show GO p e below T248 (mkF m 39 (la0 a1 x1 (10 : Int32)) [(.int 10), (.int 2), (.ref a1)]) _
  refine XS.iadd X248.here hx rfl (hb hby d19_39) rfl ?_
  rw [show ((2 : Int32) + (10 : Int32)) = (12 : Int32) from by decide]
  show GO p e below T248 (mkF m 40 (la0 a1 x1 (10 : Int32)) [(.int 12), (.ref a1)]) _
  refine st250 _ ?_
  show GO p e below T250 (mkF m 43 (la0 a1 x1 (10 : Int32)) []) _
  refine XS.aloadN X250.here hx rfl (hb hby d19_43) rfl rfl ?_
  show GO p e below T250 (mkF m 44 (la0 a1 x1 (10 : Int32)) [(.ref a1)]) _
  exact retOut X250 hx Bd.returns rfl (Or.inr (Or.inr (Or.inr (Or.inr ⟨rfl, rfl, rfl⟩)))) (hb hby d19_44) hr
 ·show Qrm_aa_10_2_16 Z x1 t1 k1 xs0 xs1 xs2 xs3 xs4 xs5 xs6 xs7 xs8 xs9 a1 d1 kd xe0 xe1 z0 h0 n0 _ T250.heap _
  rw [e250]
  exact ⟨rfl, N250, (((Keep.refl h0 [a1, d1]).trans K244 (allS (P := fun x => x ∈ _ ∨ _) (Or.inl (List.mem_of_getElem? (i := 1) rfl)) all0)).wr W250 (Or.inl (List.mem_of_getElem? (i := 0) rfl))), f256, f257, f258, f250, f259⟩
def Qrm_sa_10_2_16 (Z : State) (x1 : Addr) (t1 : Addr) (k1 : ClassId) (xs0 : Int32) (xs1 : Int32) (xs2 : Int32) (xs3 : Int32) (xs4 : Int32) (xs5 : Int32) (xs6 : Int32) (xs7 : Int32) (xs8 : Int32) (xs9 : Int32) (a1 : Addr) (d1 : Addr) (kd : ClassId) (xe0 : Int32) (xe1 : Int32) (z0 : Int32) (h0 : Heap) (n0 : Nat) (v : Option Value) (h : Heap) (L : List Loc) : Prop := v = some (.ref a1) ∧ Fr n0 L ∧ Keep h0 h [a1, d1] ∧ Exa Z h a1 kS2 ∧ Fld Z h a1 kS0 "value" "[B" (.ref d1) ∧ Fld Z h a1 kS0 "coder" "B" (.int 0) ∧ Fld Z h a1 kS0 "count" "I" (.int 12) ∧ Arv Z h d1 kd .byte (16 : Int32) [(.int xe0), (.int xe1), (.int xs0), (.int xs1), (.int xs2), (.int xs3), (.int xs4), (.int xs5), (.int xs6), (.int xs7), (.int xs8), (.int xs9), (.int 0), (.int 0), (.int 0), (.int 0)] (.int 0)
theorem ef_rm_sa_10_2_16 (m : MethodId) (x0 : Addr) (x1 : Addr) : entryFrame m #[(.ref x0), (.ref x1)] 2 = mkF m 0 #[.val (.ref x0), .val (.ref x1)] [] := by first | rfl | (simp [entryFrame, mkF, argsToLocals, Value.category]; done)
theorem rm_sa_10_2_16 (l : Launch) (Z : State) (a0 : Array Value) (hw : HW Z a0) (ws : List Jvm.Cond) (x1 : Addr) (t1 : Addr) (k1 : ClassId) (xs0 : Int32) (xs1 : Int32) (xs2 : Int32) (xs3 : Int32) (xs4 : Int32) (xs5 : Int32) (xs6 : Int32) (xs7 : Int32) (xs8 : Int32) (xs9 : Int32) (a1 : Addr) (d1 : Addr) (kd : ClassId) (xe0 : Int32) (xe1 : Int32) (z0 : Int32) (h0 : Heap) (n0 : Nat) (Z0 : n0 ≤ h0.size) (O0 : Old Z n0 h0) (Esx1 : Exa Z h0 x1 kS1) (Fcx1 : Fld Z h0 x1 kS1 "coder" "B" (.int 0)) (Fvx1 : Fld Z h0 x1 kS1 "value" "[B" (.ref t1)) (Vsx1 : Arv Z h0 t1 k1 .byte (10 : Int32) [(.int xs0), (.int xs1), (.int xs2), (.int xs3), (.int xs4), (.int xs5), (.int xs6), (.int xs7), (.int xs8), (.int xs9)] (.int 0)) (Eb : Exa Z h0 a1 kS2) (Fbv : Fld Z h0 a1 kS0 "value" "[B" (.ref d1)) (Fbc : Fld Z h0 a1 kS0 "coder" "B" (.int 0)) (Fbn : Fld Z h0 a1 kS0 "count" "I" (.int 2)) (Vb : Arv Z h0 d1 kd .byte (16 : Int32) [(.int xe0), (.int xe1), (.int 0), (.int 0), (.int 0), (.int 0), (.int 0), (.int 0), (.int 0), (.int 0), (.int 0), (.int 0), (.int 0), (.int 0), (.int 0), (.int 0)] (.int 0)) (SZc : Sta Z Z.heap kS1 "COMPACT_STRINGS" "Z" (.int z0)) (hz0 : ¬ z0 = 0) (ga : n0 ≤ a1) (gd : n0 ≤ d1) (ned : t1 ≠ d1) :
  OwnM l Z h0 (⟨kS2, "append", "(Ljava/lang/String;)Ljava/lang/StringBuilder;"⟩ : MethodName) (Jvm.Cond.code (⟨kS2, "append", "(Ljava/lang/String;)Ljava/lang/StringBuilder;"⟩ : MethodName) jdk_67_method_7_code 2 (some (.object kS2)) :: ws) (RM 4 0 0 61) #[(.ref a1), (.ref x1)] (Qrm_sa_10_2_16 Z x1 t1 k1 xs0 xs1 xs2 xs3 xs4 xs5 xs6 xs7 xs8 xs9 a1 d1 kd xe0 xe1 z0 h0 n0) := by
 refine MetFree.of_bodySF (plainFor_of_name pn_7) hisR ?_
 intro p e s m args below meth c s₁ Bd hml0 hP hK
 obtain ⟨rfl, hZ, hh⟩ := hP
 have hx := Bd.exec
 have hby := Bd.bytes
 have hml : c.maxLocals = 2 := hml0
 have hown : s.vm.findClass kS2 = some m.cls := findClass_of_methodNamed Bd.named
 have hnm := (name_of_methodNamed Bd.named Bd.method).1
 have X0 : Stand p l e (RM 4 0 0 61) s m #[(.ref a1), (.ref x1)] below meth c s₁ [] 0 0 := Stand.of_body Bd
 have e0 : s₁.heap = h0 := by rw [← hh, Bd.state]; rfl
 have N0 := Fr.nil n0
 have pre0 : ∀ t, GO p e below s₁ (mkF m 0 #[.val (.ref a1), .val (.ref x1)] []) t → GO p e below s₁ (entryFrame m #[(.ref a1), (.ref x1)] 2) t := fun t k => castTop (ef_rm_sa_10_2_16 m a1 x1) k
 have lt_Esx1 := ltA Esx1.lt
 have lt_Fcx1 := ltA Fcx1.lt
 have lt_Fvx1 := ltA Fvx1.lt
 have lt_Vsx1 := ltA Vsx1.lt
 have lt_Eb := ltA Eb.lt
 have lt_Fbv := ltA Fbv.lt
 have lt_Fbc := ltA Fbc.lt
 have lt_Fbn := ltA Fbn.lt
 have lt_Vb := ltA Vb.lt
 -- pc 2: AbstractStringBuilder.append by rm_aa_10_2_16
 obtain ⟨_, _, ⟨T260, L260, k260, n260⟩, -, X260, ⟨Lc260, hQ260, l260, y260, z260⟩, st260⟩ := superBack X0 hx hZ (y := (⟨kS0, "append", "(Ljava/lang/String;)Ljava/lang/AbstractStringBuilder;"⟩ : MethodName)) hown (wd hw 100 rfl) (own_sameM (y := (⟨kS0, "append", "(Ljava/lang/String;)Ljava/lang/AbstractStringBuilder;"⟩ : MethodName)) (wd hw 101 rfl) (wd hw 120 rfl) rfl (by decide)) (wd hw 101 rfl) (wd hw 102 rfl) (by decide) (backOf (W := 0) (rm_aa_10_2_16 l Z a0 hw [] x1 t1 k1 xs0 xs1 xs2 xs3 xs4 xs5 xs6 xs7 xs8 xs9 a1 d1 kd xe0 xe1 z0 h0 n0 Z0 O0 Esx1 Fcx1 Fvx1 Vsx1 Eb Fbv Fbc Fbn Vb (by first | assumption | decide | omega) (by first | assumption | decide | omega) (by first | assumption | decide | omega) (by first | assumption | decide | omega) ned) hZ (wd hw 104 rfl) (wd hw 87 rfl) (by decide) (by decide)) e0 (Ins.self Eb) (g := (mkF m 2 #[.val (.ref a1), .val (.ref x1)] [(.ref x1), (.ref a1)])) rfl (by rw [hml]; rfl) (wd hw 104 rfl) (argsL := [(.ref x1)]) (rest := []) (lenOf pd_12 rfl) rfl (wz rfl) (hb hby d18_2) (fun _ _ => ⟨rfl, e0, (by decide : 0 + 0 ≤ _), (by decide : 0 + 0 ≤ _)⟩)
 dsimp only [Pt.U, Pt.locs, Pt.cells, Pt.slots] at X260 l260 y260 z260 st260 hQ260
 rw [l260, y260, z260] at X260
 obtain ⟨h260, e260⟩ : ∃ z, T260.heap = z := ⟨_, rfl⟩
 rw [e260] at hQ260
 obtain ⟨rfl, N260q, K260, p260_0, p260_1, p260_2, p260_3, p260_4⟩ := hQ260
 have N260 := Fr.app N0 N260q
 have ne261 : a1 ≠ x1 := ne_exa Eb Esx1 (by decide)
 have ne262 : a1 ≠ d1 := Exa.neArv Eb Vb (wd hw 78 rfl)
 have ne263 : a1 ≠ t1 := Exa.neArv Eb Vsx1 (wd hw 78 rfl)
 have ne264 : d1 ≠ x1 := Ne.symm (Exa.neArv Esx1 Vb (wd hw 1 rfl))
 have sz260 : h0.size ≤ h260.size := K260.1
 have nz260 := Nat.le_trans Z0 sz260
 have lt260_0 := ltA p260_0.lt
 have lt260_4 := ltA p260_4.lt
 obtain ⟨fs, hr, hrun, hended, hW, hsame⟩ := X260.leave (v := some (.ref a1)) (fun h => by rw [Bd.returns] at h; cases h)
 refine ⟨_, _, pre0 _ ?_, hrun, hended, _, _, rfl, ?_, ⟨_, rfl⟩, hW, hsame.mono (by decide) (by decide)⟩
 ·show GO p e below s₁ (mkF m 0 #[.val (.ref a1), .val (.ref x1)] []) _
  refine XS.aloadN X0.here hx rfl (hb hby d18_0) rfl rfl ?_
  show GO p e below s₁ (mkF m 1 #[.val (.ref a1), .val (.ref x1)] [(.ref a1)]) _
  refine XS.aloadN X0.here hx rfl (hb hby d18_1) rfl rfl ?_
  show GO p e below s₁ (mkF m 2 #[.val (.ref a1), .val (.ref x1)] [(.ref x1), (.ref a1)]) _
  refine st260.trans ?_
  show GO p e below T260 (mkF m 5 #[.val (.ref a1), .val (.ref x1)] [(.ref a1)]) _
  refine XS.pop X260.here hx rfl (hb hby d18_5) rfl rfl ?_
  show GO p e below T260 (mkF m 6 #[.val (.ref a1), .val (.ref x1)] []) _
  refine XS.aloadN X260.here hx rfl (hb hby d18_6) rfl rfl ?_
  show GO p e below T260 (mkF m 7 #[.val (.ref a1), .val (.ref x1)] [(.ref a1)]) _
  exact retOut X260 hx Bd.returns rfl (Or.inr (Or.inr (Or.inr (Or.inr ⟨rfl, rfl, rfl⟩)))) (hb hby d18_7) hr
 ·show Qrm_sa_10_2_16 Z x1 t1 k1 xs0 xs1 xs2 xs3 xs4 xs5 xs6 xs7 xs8 xs9 a1 d1 kd xe0 xe1 z0 h0 n0 _ T260.heap _
  rw [e260]
  exact ⟨rfl, N260, ((Keep.refl h0 [a1, d1]).trans K260 (allS (P := fun x => x ∈ _ ∨ _) (Or.inl (List.mem_of_getElem? (i := 0) rfl)) (allS (P := fun x => x ∈ _ ∨ _) (Or.inl (List.mem_of_getElem? (i := 1) rfl)) all0))), p260_0, p260_1, p260_2, p260_3, p260_4⟩
def Qrm_gb_2_12_16 (Z : State) (x1 : Addr) (t1 : Addr) (k1 : ClassId) (xs0 : Int32) (xs1 : Int32) (d1 : Addr) (kd : ClassId) (xe0 : Int32) (xe1 : Int32) (xe2 : Int32) (xe3 : Int32) (xe4 : Int32) (xe5 : Int32) (xe6 : Int32) (xe7 : Int32) (xe8 : Int32) (xe9 : Int32) (xe10 : Int32) (xe11 : Int32) (z0 : Int32) (h0 : Heap) (n0 : Nat) (v : Option Value) (h : Heap) (L : List Loc) : Prop := v = none ∧ Fr n0 L ∧ Keep h0 h [d1] ∧ Arv Z h d1 kd .byte (16 : Int32) [(.int xe0), (.int xe1), (.int xe2), (.int xe3), (.int xe4), (.int xe5), (.int xe6), (.int xe7), (.int xe8), (.int xe9), (.int xe10), (.int xe11), (.int xs0), (.int xs1), (.int 0), (.int 0)] (.int 0)
theorem ef_rm_gb_2_12_16 (m : MethodId) (x0 : Addr) (x1 : Addr) (x2 : Int32) (x3 : Int32) : entryFrame m #[(.ref x0), (.ref x1), (.int x2), (.int x3)] 4 = mkF m 0 (la4 x0 x1 x2 x3) [] := by first | rfl | (simp [entryFrame, mkF, argsToLocals, Value.category]; done)
theorem rm_gb_2_12_16 (l : Launch) (Z : State) (a0 : Array Value) (hw : HW Z a0) (ws : List Jvm.Cond) (x1 : Addr) (t1 : Addr) (k1 : ClassId) (xs0 : Int32) (xs1 : Int32) (d1 : Addr) (kd : ClassId) (xe0 : Int32) (xe1 : Int32) (xe2 : Int32) (xe3 : Int32) (xe4 : Int32) (xe5 : Int32) (xe6 : Int32) (xe7 : Int32) (xe8 : Int32) (xe9 : Int32) (xe10 : Int32) (xe11 : Int32) (z0 : Int32) (h0 : Heap) (n0 : Nat) (Z0 : n0 ≤ h0.size) (O0 : Old Z n0 h0) (Esx1 : Exa Z h0 x1 kS1) (Fcx1 : Fld Z h0 x1 kS1 "coder" "B" (.int 0)) (Fvx1 : Fld Z h0 x1 kS1 "value" "[B" (.ref t1)) (Vsx1 : Arv Z h0 t1 k1 .byte (2 : Int32) [(.int xs0), (.int xs1)] (.int 0)) (Vd : Arv Z h0 d1 kd .byte (16 : Int32) [(.int xe0), (.int xe1), (.int xe2), (.int xe3), (.int xe4), (.int xe5), (.int xe6), (.int xe7), (.int xe8), (.int xe9), (.int xe10), (.int xe11), (.int 0), (.int 0), (.int 0), (.int 0)] (.int 0)) (SZc : Sta Z Z.heap kS1 "COMPACT_STRINGS" "Z" (.int z0)) (hz0 : ¬ z0 = 0) (gd : n0 ≤ d1) (ned : t1 ≠ d1) :
  OwnM l Z h0 (⟨kS1, "getBytes", "([BIB)V"⟩ : MethodName) (Jvm.Cond.code (⟨kS1, "getBytes", "([BIB)V"⟩ : MethodName) jdk_42_method_147_code 4 none :: ws) (RM 1 0 0 18) #[(.ref x1), (.ref d1), (.int 12), (.int 0)] (Qrm_gb_2_12_16 Z x1 t1 k1 xs0 xs1 d1 kd xe0 xe1 xe2 xe3 xe4 xe5 xe6 xe7 xe8 xe9 xe10 xe11 z0 h0 n0) := by
 refine MetFree.of_bodySF (plainFor_of_name pn_1) hisR ?_
 intro p e s m args below meth c s₁ Bd hml0 hP hK
 obtain ⟨rfl, hZ, hh⟩ := hP
 have hx := Bd.exec
 have hby := Bd.bytes
 have hml : c.maxLocals = 4 := hml0
 have hown : s.vm.findClass kS1 = some m.cls := findClass_of_methodNamed Bd.named
 have hnm := (name_of_methodNamed Bd.named Bd.method).1
 have X0 : Stand p l e (RM 1 0 0 18) s m #[(.ref x1), (.ref d1), (.int 12), (.int 0)] below meth c s₁ [] 0 0 := Stand.of_body Bd
 have e0 : s₁.heap = h0 := by rw [← hh, Bd.state]; rfl
 have N0 := Fr.nil n0
 have pre0 : ∀ t, GO p e below s₁ (mkF m 0 (la4 x1 d1 (12 : Int32) (0 : Int32)) []) t → GO p e below s₁ (entryFrame m #[(.ref x1), (.ref d1), (.int 12), (.int 0)] 4) t := fun t k => castTop (ef_rm_gb_2_12_16 m x1 d1 ((12 : Int32)) ((0 : Int32))) k
 have lt_Esx1 := ltA Esx1.lt
 have lt_Fcx1 := ltA Fcx1.lt
 have lt_Fvx1 := ltA Fvx1.lt
 have lt_Vsx1 := ltA Vsx1.lt
 have lt_Vd := ltA Vd.lt
 -- pc 1: String.coder by rm_sc
 obtain ⟨cq265, kq265, q265a, q265b, q265c⟩ := isOf hZ e0 Esx1
 obtain ⟨_, _, ⟨T265, L265, k265, n265⟩, -, X265, ⟨Lc265, hQ265, l265, y265, z265⟩, st265⟩ := X0.virtualBack hx (y := (⟨kS1, "coder", "()B"⟩ : MethodName)) (z := (⟨kS1, "coder", "()B"⟩ : MethodName)) hown (mvT hZ (wd hw 110 rfl)) (mvT hZ (wd hw 111 rfl)) (notFace_of_selects (args := #[]) (mvT hZ (wd hw 113 rfl))) (mvT hZ (wd hw 113 rfl)) (mvT hZ (wd hw 112 rfl)) (by decide) (backOf (W := 0) (rm_sc l Z a0 hw [] x1 z0 h0 n0 Z0 O0 Fcx1 (by first | assumption | decide | omega) (by first | assumption | decide | omega)) hZ (wd hw 114 rfl) (wd hw 2 rfl) (by decide) (by decide)) q265a q265c (g := (mkF m 1 (la4 x1 d1 (12 : Int32) (0 : Int32)) [(.ref x1)])) rfl (by rw [hml]; rfl) (Steps.refl _) (argsL := []) (rest := []) (lenOf pd_7 rfl) rfl (wz rfl) (hb hby d25_1) (fun _ _ => ⟨rfl, e0, (by decide : 0 + 0 ≤ _), (by decide : 0 + 0 ≤ _)⟩)
 dsimp only [Pt.U, Pt.locs, Pt.cells, Pt.slots] at X265 l265 y265 z265 st265 hQ265
 rw [l265, y265, z265] at X265
 obtain ⟨rfl, N265q, e265⟩ := hQ265
 have N265 := Fr.app N0 N265q
 obtain ⟨T266, X266, e266, st266⟩ := getF X265 hx hZ hown (host := "") (Or.inl (wd hw 28 rfl)) Via.refl e265 Fvx1 (g := (mkF m 9 (la4 x1 d1 (12 : Int32) (0 : Int32)) [(.ref x1)])) rfl rfl (hb hby d25_9)
 obtain ⟨T267, X267, e267, st267⟩ := getF X266 hx hZ hown (host := "") (Or.inl (wd hw 28 rfl)) Via.refl e266 Fvx1 (g := (mkF m 18 (la4 x1 d1 (12 : Int32) (0 : Int32)) [(.ref x1), (.int 12), (.ref d1), (.int 0), (.ref t1)])) rfl rfl (hb hby d25_18)
 obtain ⟨cl268, Ar268, -, S268, M268, -, -⟩ := id Vsx1
 obtain ⟨T269, h269, L269, X269, e269, N269, K269, A269, st269⟩ := cpA X267 hx hZ hown (wd hw 138 rfl) (wd hw 141 rfl) (wd hw 139 rfl) (wd hw 140 rfl) e267 Vsx1 Vd (us := [(.int xs0), (.int xs1)]) (Or.inl ⟨rfl, rfl⟩) (by decide) (by decide) (by decide) (by decide) (by decide) rfl (Nat.le_of_ble_eq_true rfl) N265 (by omega) (g := (mkF m 22 (la4 x1 d1 (12 : Int32) (0 : Int32)) [(.int 2), (.int 12), (.ref d1), (.int 0), (.ref t1)])) rfl (by rw [hml]; rfl) rfl (hb hby d25_22) (by decide) (W := 0) (wz rfl) (by decide)
 have sz269 : h0.size ≤ h269.size := K269.1
 have nz269 := Nat.le_trans Z0 sz269
 have V269 : Arv Z h269 d1 kd .byte (16 : Int32) [(.int xe0), (.int xe1), (.int xe2), (.int xe3), (.int xe4), (.int xe5), (.int xe6), (.int xe7), (.int xe8), (.int xe9), (.int xe10), (.int xe11), (.int xs0), (.int xs1), (.int 0), (.int 0)] (.int 0) := A269
 obtain ⟨fs, hr, hrun, hended, hW, hsame⟩ := X269.leave (v := none) (fun _ => rfl)
 refine ⟨_, _, pre0 _ ?_, hrun, hended, _, _, rfl, ?_, ⟨_, rfl⟩, hW, hsame.mono (by decide) (by decide)⟩
 ·show GO p e below s₁ (mkF m 0 (la4 x1 d1 (12 : Int32) (0 : Int32)) []) _
  refine XS.aloadN X0.here hx rfl (hb hby d25_0) rfl rfl ?_
  show GO p e below s₁ (mkF m 1 (la4 x1 d1 (12 : Int32) (0 : Int32)) [(.ref x1)]) _
  refine st265.trans ?_
  show GO p e below T265 (mkF m 4 (la4 x1 d1 (12 : Int32) (0 : Int32)) [(.int 0)]) _
  refine XS.iloadN X265.here hx rfl (hb hby d25_4) rfl ?_
  show GO p e below T265 (mkF m 5 (la4 x1 d1 (12 : Int32) (0 : Int32)) [(.int 0), (.int 0)]) _
  refine XS.icmpNo X265.here hx rfl (hb hby d25_5) rfl (teq (rfl : (0 : Int32) = (0 : Int32))).2 ?_
  show GO p e below T265 (mkF m 8 (la4 x1 d1 (12 : Int32) (0 : Int32)) []) _
  refine XS.aloadN X265.here hx rfl (hb hby d25_8) rfl rfl ?_
  show GO p e below T265 (mkF m 9 (la4 x1 d1 (12 : Int32) (0 : Int32)) [(.ref x1)]) _
  refine st266 _ ?_
  show GO p e below T266 (mkF m 12 (la4 x1 d1 (12 : Int32) (0 : Int32)) [(.ref t1)]) _
  refine XS.iconst X266.here hx rfl (hb hby d25_12) ?_
  show GO p e below T266 (mkF m 13 (la4 x1 d1 (12 : Int32) (0 : Int32)) [(.int 0), (.ref t1)]) _
  refine XS.aloadN X266.here hx rfl (hb hby d25_13) rfl rfl ?_
  show GO p e below T266 (mkF m 14 (la4 x1 d1 (12 : Int32) (0 : Int32)) [(.ref d1), (.int 0), (.ref t1)]) _
  refine XS.iloadN X266.here hx rfl (hb hby d25_14) rfl ?_
  show GO p e below T266 (mkF m 15 (la4 x1 d1 (12 : Int32) (0 : Int32)) [(.int 12), (.ref d1), (.int 0), (.ref t1)]) _
  refine XS.iloadN X266.here hx rfl (hb hby d25_15) rfl ?_
  show GO p e below T266 (mkF m 16 (la4 x1 d1 (12 : Int32) (0 : Int32)) [(.int 0), (.int 12), (.ref d1), (.int 0), (.ref t1)]) _
  refine XS.ishl X266.here hx rfl (hb hby d25_16) rfl ?_
  rw [show ((12 : Int32) <<< ((0 : Int32) &&& 31)) = (12 : Int32) from by decide]
  show GO p e below T266 (mkF m 17 (la4 x1 d1 (12 : Int32) (0 : Int32)) [(.int 12), (.ref d1), (.int 0), (.ref t1)]) _
  refine XS.aloadN X266.here hx rfl (hb hby d25_17) rfl rfl ?_
  show GO p e below T266 (mkF m 18 (la4 x1 d1 (12 : Int32) (0 : Int32)) [(.ref x1), (.int 12), (.ref d1), (.int 0), (.ref t1)]) _
  refine st267 _ ?_
  show GO p e below T267 (mkF m 21 (la4 x1 d1 (12 : Int32) (0 : Int32)) [(.ref t1), (.int 12), (.ref d1), (.int 0), (.ref t1)]) _
  refine X267.arraylength hx (by rw [e267]; exact Ar268.1) (State.isArrayOf_alike hZ.alike Ar268.2.1) (g := (mkF m 21 (la4 x1 d1 (12 : Int32) (0 : Int32)) [(.ref t1), (.int 12), (.ref d1), (.int 0), (.ref t1)])) rfl rfl (hb hby d25_21) _ ?_
  rw [len_of S268 M268]
  show GO p e below T267 (mkF m 22 (la4 x1 d1 (12 : Int32) (0 : Int32)) [(.int 2), (.int 12), (.ref d1), (.int 0), (.ref t1)]) _
  refine st269 _ ?_
  show GO p e below T269 (mkF m 25 (la4 x1 d1 (12 : Int32) (0 : Int32)) []) _
  refine XS.goto X269.here hx rfl (pc0 := 25) (pc' := 43) rfl (hb hby d25_25) (by decide) (by decide) ?_
  show GO p e below T269 (mkF m 43 (la4 x1 d1 (12 : Int32) (0 : Int32)) []) _
  exact X269.returnOut hx Bd.returns (hb hby d25_43) hr
 ·show Qrm_gb_2_12_16 Z x1 t1 k1 xs0 xs1 d1 kd xe0 xe1 xe2 xe3 xe4 xe5 xe6 xe7 xe8 xe9 xe10 xe11 z0 h0 n0 _ T269.heap _
  rw [e269]
  exact ⟨rfl, N269, ((Keep.refl h0 [d1]).trans K269 (allS (P := fun x => x ∈ _ ∨ _) (Or.inl (List.mem_of_getElem? (i := 0) rfl)) all0)), V269⟩
def Qrm_ps_2_12_16 (Z : State) (x1 : Addr) (t1 : Addr) (k1 : ClassId) (xs0 : Int32) (xs1 : Int32) (a1 : Addr) (d1 : Addr) (kd : ClassId) (xe0 : Int32) (xe1 : Int32) (xe2 : Int32) (xe3 : Int32) (xe4 : Int32) (xe5 : Int32) (xe6 : Int32) (xe7 : Int32) (xe8 : Int32) (xe9 : Int32) (xe10 : Int32) (xe11 : Int32) (z0 : Int32) (h0 : Heap) (n0 : Nat) (v : Option Value) (h : Heap) (L : List Loc) : Prop := v = none ∧ Fr n0 L ∧ Keep h0 h [d1] ∧ Arv Z h d1 kd .byte (16 : Int32) [(.int xe0), (.int xe1), (.int xe2), (.int xe3), (.int xe4), (.int xe5), (.int xe6), (.int xe7), (.int xe8), (.int xe9), (.int xe10), (.int xe11), (.int xs0), (.int xs1), (.int 0), (.int 0)] (.int 0)
theorem ef_rm_ps_2_12_16 (m : MethodId) (x0 : Addr) (x1 : Int32) (x2 : Addr) : entryFrame m #[(.ref x0), (.int x1), (.ref x2)] 3 = mkF m 0 (la5 x0 x1 x2) [] := by first | rfl | (simp [entryFrame, mkF, argsToLocals, Value.category]; done)
theorem rm_ps_2_12_16 (l : Launch) (Z : State) (a0 : Array Value) (hw : HW Z a0) (ws : List Jvm.Cond) (x1 : Addr) (t1 : Addr) (k1 : ClassId) (xs0 : Int32) (xs1 : Int32) (a1 : Addr) (d1 : Addr) (kd : ClassId) (xe0 : Int32) (xe1 : Int32) (xe2 : Int32) (xe3 : Int32) (xe4 : Int32) (xe5 : Int32) (xe6 : Int32) (xe7 : Int32) (xe8 : Int32) (xe9 : Int32) (xe10 : Int32) (xe11 : Int32) (z0 : Int32) (h0 : Heap) (n0 : Nat) (Z0 : n0 ≤ h0.size) (O0 : Old Z n0 h0) (Esx1 : Exa Z h0 x1 kS1) (Fcx1 : Fld Z h0 x1 kS1 "coder" "B" (.int 0)) (Fvx1 : Fld Z h0 x1 kS1 "value" "[B" (.ref t1)) (Vsx1 : Arv Z h0 t1 k1 .byte (2 : Int32) [(.int xs0), (.int xs1)] (.int 0)) (Eb : Exa Z h0 a1 kS2) (Fbv : Fld Z h0 a1 kS0 "value" "[B" (.ref d1)) (Fbc : Fld Z h0 a1 kS0 "coder" "B" (.int 0)) (Fbn : Fld Z h0 a1 kS0 "count" "I" (.int 12)) (Vb : Arv Z h0 d1 kd .byte (16 : Int32) [(.int xe0), (.int xe1), (.int xe2), (.int xe3), (.int xe4), (.int xe5), (.int xe6), (.int xe7), (.int xe8), (.int xe9), (.int xe10), (.int xe11), (.int 0), (.int 0), (.int 0), (.int 0)] (.int 0)) (SZc : Sta Z Z.heap kS1 "COMPACT_STRINGS" "Z" (.int z0)) (hz0 : ¬ z0 = 0) (gd : n0 ≤ d1) (ned : t1 ≠ d1) :
  OwnM l Z h0 (⟨kS0, "putStringAt", "(ILjava/lang/String;)V"⟩ : MethodName) (Jvm.Cond.code (⟨kS0, "putStringAt", "(ILjava/lang/String;)V"⟩ : MethodName) jdk_68_method_73_code 3 none :: ws) (RM 2 0 0 33) #[(.ref a1), (.int 12), (.ref x1)] (Qrm_ps_2_12_16 Z x1 t1 k1 xs0 xs1 a1 d1 kd xe0 xe1 xe2 xe3 xe4 xe5 xe6 xe7 xe8 xe9 xe10 xe11 z0 h0 n0) := by
 refine MetFree.of_bodySF (plainFor_of_name pn_6) hisR ?_
 intro p e s m args below meth c s₁ Bd hml0 hP hK
 obtain ⟨rfl, hZ, hh⟩ := hP
 have hx := Bd.exec
 have hby := Bd.bytes
 have hml : c.maxLocals = 3 := hml0
 have hown : s.vm.findClass kS0 = some m.cls := findClass_of_methodNamed Bd.named
 have hnm := (name_of_methodNamed Bd.named Bd.method).1
 have X0 : Stand p l e (RM 2 0 0 33) s m #[(.ref a1), (.int 12), (.ref x1)] below meth c s₁ [] 0 0 := Stand.of_body Bd
 have e0 : s₁.heap = h0 := by rw [← hh, Bd.state]; rfl
 have N0 := Fr.nil n0
 have pre0 : ∀ t, GO p e below s₁ (mkF m 0 (la5 a1 (12 : Int32) x1) []) t → GO p e below s₁ (entryFrame m #[(.ref a1), (.int 12), (.ref x1)] 3) t := fun t k => castTop (ef_rm_ps_2_12_16 m a1 ((12 : Int32)) x1) k
 have lt_Esx1 := ltA Esx1.lt
 have lt_Fcx1 := ltA Fcx1.lt
 have lt_Fvx1 := ltA Fvx1.lt
 have lt_Vsx1 := ltA Vsx1.lt
 have lt_Eb := ltA Eb.lt
 have lt_Fbv := ltA Fbv.lt
 have lt_Fbc := ltA Fbc.lt
 have lt_Fbn := ltA Fbn.lt
 have lt_Vb := ltA Vb.lt
 -- pc 2: AbstractStringBuilder.inflateIfNeededFor by rm_inf
 obtain ⟨cq270, q270a, q270b⟩ := Eb.cell
 obtain ⟨_, _, ⟨T270, L270, k270, n270⟩, -, X270, ⟨Lc270, hQ270, l270, y270, z270⟩, st270⟩ := X0.privateBack hx (y := (⟨kS0, "inflateIfNeededFor", "(Ljava/lang/String;)V"⟩ : MethodName)) hown (mvT hZ (wd hw 127 rfl)) (mvT hZ (wd hw 128 rfl)) (mvT hZ (own_selfsel (wd hw 130 rfl) (wd hw 129 rfl) (wd hw 128 rfl) (by decide))) (Cond.privateMethod_at (mvP hZ (wd hw 129 rfl) (args := #[]))) (mvT hZ (wd hw 131 rfl)) (by decide) (backOf (W := 0) (rm_inf l Z a0 hw [] a1 x1 z0 h0 n0 Z0 O0 Fbc Esx1 Fcx1 (by first | assumption | decide | omega) (by first | assumption | decide | omega)) hZ (wd hw 131 rfl) (wd hw 87 rfl) (by decide) (by decide)) (g := (mkF m 2 (la5 a1 (12 : Int32) x1) [(.ref x1), (.ref a1)])) rfl (by rw [hml]; rfl) (Steps.refl _) (a := a1) (by rw [e0]; exact q270a) q270b (argsL := [(.ref x1)]) (rest := []) (lenOf pd_8 rfl) rfl (wz rfl) (hb hby d23_2) (fun _ _ => ⟨rfl, e0, (by decide : 0 + 0 ≤ _), (by decide : 0 + 0 ≤ _)⟩)
 dsimp only [Pt.U, Pt.locs, Pt.cells, Pt.slots] at X270 l270 y270 z270 st270 hQ270
 rw [l270, y270, z270] at X270
 obtain ⟨rfl, N270q, e270⟩ := hQ270
 have N270 := Fr.app N0 N270q
 obtain ⟨T271, X271, e271, st271⟩ := getF X270 hx hZ hown (host := "") (Or.inl (wd hw 91 rfl)) Via.refl e270 Fbv (g := (mkF m 7 (la5 a1 (12 : Int32) x1) [(.ref a1), (.ref x1)])) rfl rfl (hb hby d23_7)
 obtain ⟨T272, X272, e272, st272⟩ := getF X271 hx hZ hown (host := "") (Or.inl (wd hw 93 rfl)) Via.refl e271 Fbc (g := (mkF m 12 (la5 a1 (12 : Int32) x1) [(.ref a1), (.int 12), (.ref d1), (.ref x1)])) rfl rfl (hb hby d23_12)
 -- pc 15: String.getBytes by rm_gb_2_12_16
 obtain ⟨cq273, kq273, q273a, q273b, q273c⟩ := isOf hZ e272 Esx1
 obtain ⟨_, _, ⟨T273, L273, k273, n273⟩, -, X273, ⟨Lc273, hQ273, l273, y273, z273⟩, st273⟩ := X272.virtualBack hx (y := (⟨kS1, "getBytes", "([BIB)V"⟩ : MethodName)) (z := (⟨kS1, "getBytes", "([BIB)V"⟩ : MethodName)) hown (mvT hZ (wd hw 133 rfl)) (mvT hZ (wd hw 134 rfl)) (notFace_of_selects (args := #[]) (mvT hZ (wd hw 136 rfl))) (mvT hZ (wd hw 136 rfl)) (mvT hZ (wd hw 135 rfl)) (by decide) (backOf (W := 0) (rm_gb_2_12_16 l Z a0 hw [] x1 t1 k1 xs0 xs1 d1 kd xe0 xe1 xe2 xe3 xe4 xe5 xe6 xe7 xe8 xe9 xe10 xe11 z0 h0 n0 Z0 O0 Esx1 Fcx1 Fvx1 Vsx1 Vb (by first | assumption | decide | omega) (by first | assumption | decide | omega) (by first | assumption | decide | omega) ned) hZ (wd hw 137 rfl) (wd hw 2 rfl) (by decide) (by decide)) q273a q273c (g := (mkF m 15 (la5 a1 (12 : Int32) x1) [(.int 0), (.int 12), (.ref d1), (.ref x1)])) rfl (by rw [hml]; rfl) (Steps.refl _) (argsL := [(.ref d1), (.int 12), (.int 0)]) (rest := []) (lenOf pd_9 rfl) rfl (wz rfl) (hb hby d23_15) (fun _ _ => ⟨rfl, e272, (by decide : 0 + 0 ≤ _), (by decide : 0 + 0 ≤ _)⟩)
 dsimp only [Pt.U, Pt.locs, Pt.cells, Pt.slots] at X273 l273 y273 z273 st273 hQ273
 rw [l273, y273, z273] at X273
 obtain ⟨h273, e273⟩ : ∃ z, T273.heap = z := ⟨_, rfl⟩
 rw [e273] at hQ273
 obtain ⟨rfl, N273q, K273, p273_0⟩ := hQ273
 have N273 := Fr.app N270 N273q
 have sz273 : h0.size ≤ h273.size := K273.1
 have nz273 := Nat.le_trans Z0 sz273
 have lt273_0 := ltA p273_0.lt
 obtain ⟨fs, hr, hrun, hended, hW, hsame⟩ := X273.leave (v := none) (fun _ => rfl)
 refine ⟨_, _, pre0 _ ?_, hrun, hended, _, _, rfl, ?_, ⟨_, rfl⟩, hW, hsame.mono (by decide) (by decide)⟩
 ·show GO p e below s₁ (mkF m 0 (la5 a1 (12 : Int32) x1) []) _
  refine XS.aloadN X0.here hx rfl (hb hby d23_0) rfl rfl ?_
  show GO p e below s₁ (mkF m 1 (la5 a1 (12 : Int32) x1) [(.ref a1)]) _
  refine XS.aloadN X0.here hx rfl (hb hby d23_1) rfl rfl ?_
  show GO p e below s₁ (mkF m 2 (la5 a1 (12 : Int32) x1) [(.ref x1), (.ref a1)]) _
  refine st270.trans ?_
  show GO p e below T270 (mkF m 5 (la5 a1 (12 : Int32) x1) []) _
  refine XS.aloadN X270.here hx rfl (hb hby d23_5) rfl rfl ?_
  show GO p e below T270 (mkF m 6 (la5 a1 (12 : Int32) x1) [(.ref x1)]) _
  refine XS.aloadN X270.here hx rfl (hb hby d23_6) rfl rfl ?_
  show GO p e below T270 (mkF m 7 (la5 a1 (12 : Int32) x1) [(.ref a1), (.ref x1)]) _
  refine st271 _ ?_
  show GO p e below T271 (mkF m 10 (la5 a1 (12 : Int32) x1) [(.ref d1), (.ref x1)]) _
  refine XS.iloadN X271.here hx rfl (hb hby d23_10) rfl ?_
  show GO p e below T271 (mkF m 11 (la5 a1 (12 : Int32) x1) [(.int 12), (.ref d1), (.ref x1)]) _
  refine XS.aloadN X271.here hx rfl (hb hby d23_11) rfl rfl ?_
  show GO p e below T271 (mkF m 12 (la5 a1 (12 : Int32) x1) [(.ref a1), (.int 12), (.ref d1), (.ref x1)]) _
  refine st272 _ ?_
  show GO p e below T272 (mkF m 15 (la5 a1 (12 : Int32) x1) [(.int 0), (.int 12), (.ref d1), (.ref x1)]) _
  refine st273.trans ?_
  show GO p e below T273 (mkF m 18 (la5 a1 (12 : Int32) x1) []) _
  exact X273.returnOut hx Bd.returns (hb hby d23_18) hr
 ·show Qrm_ps_2_12_16 Z x1 t1 k1 xs0 xs1 a1 d1 kd xe0 xe1 xe2 xe3 xe4 xe5 xe6 xe7 xe8 xe9 xe10 xe11 z0 h0 n0 _ T273.heap _
  rw [e273]
  exact ⟨rfl, N273, ((Keep.refl h0 [d1]).trans K273 (allS (P := fun x => x ∈ _ ∨ _) (Or.inl (List.mem_of_getElem? (i := 0) rfl)) all0)), p273_0⟩
def Qrm_aa_2_12_16 (Z : State) (x1 : Addr) (t1 : Addr) (k1 : ClassId) (xs0 : Int32) (xs1 : Int32) (a1 : Addr) (d1 : Addr) (kd : ClassId) (xe0 : Int32) (xe1 : Int32) (xe2 : Int32) (xe3 : Int32) (xe4 : Int32) (xe5 : Int32) (xe6 : Int32) (xe7 : Int32) (xe8 : Int32) (xe9 : Int32) (xe10 : Int32) (xe11 : Int32) (z0 : Int32) (h0 : Heap) (n0 : Nat) (v : Option Value) (h : Heap) (L : List Loc) : Prop := v = some (.ref a1) ∧ Fr n0 L ∧ Keep h0 h [a1, d1] ∧ Exa Z h a1 kS2 ∧ Fld Z h a1 kS0 "value" "[B" (.ref d1) ∧ Fld Z h a1 kS0 "coder" "B" (.int 0) ∧ Fld Z h a1 kS0 "count" "I" (.int 14) ∧ Arv Z h d1 kd .byte (16 : Int32) [(.int xe0), (.int xe1), (.int xe2), (.int xe3), (.int xe4), (.int xe5), (.int xe6), (.int xe7), (.int xe8), (.int xe9), (.int xe10), (.int xe11), (.int xs0), (.int xs1), (.int 0), (.int 0)] (.int 0)
theorem ef_rm_aa_2_12_16 (m : MethodId) (x0 : Addr) (x1 : Addr) : entryFrame m #[(.ref x0), (.ref x1)] 3 = mkF m 0 (la6 x0 x1) [] := by first | rfl | (simp [entryFrame, mkF, argsToLocals, Value.category]; done)
theorem rm_aa_2_12_16 (l : Launch) (Z : State) (a0 : Array Value) (hw : HW Z a0) (ws : List Jvm.Cond) (x1 : Addr) (t1 : Addr) (k1 : ClassId) (xs0 : Int32) (xs1 : Int32) (a1 : Addr) (d1 : Addr) (kd : ClassId) (xe0 : Int32) (xe1 : Int32) (xe2 : Int32) (xe3 : Int32) (xe4 : Int32) (xe5 : Int32) (xe6 : Int32) (xe7 : Int32) (xe8 : Int32) (xe9 : Int32) (xe10 : Int32) (xe11 : Int32) (z0 : Int32) (h0 : Heap) (n0 : Nat) (Z0 : n0 ≤ h0.size) (O0 : Old Z n0 h0) (Esx1 : Exa Z h0 x1 kS1) (Fcx1 : Fld Z h0 x1 kS1 "coder" "B" (.int 0)) (Fvx1 : Fld Z h0 x1 kS1 "value" "[B" (.ref t1)) (Vsx1 : Arv Z h0 t1 k1 .byte (2 : Int32) [(.int xs0), (.int xs1)] (.int 0)) (Eb : Exa Z h0 a1 kS2) (Fbv : Fld Z h0 a1 kS0 "value" "[B" (.ref d1)) (Fbc : Fld Z h0 a1 kS0 "coder" "B" (.int 0)) (Fbn : Fld Z h0 a1 kS0 "count" "I" (.int 12)) (Vb : Arv Z h0 d1 kd .byte (16 : Int32) [(.int xe0), (.int xe1), (.int xe2), (.int xe3), (.int xe4), (.int xe5), (.int xe6), (.int xe7), (.int xe8), (.int xe9), (.int xe10), (.int xe11), (.int 0), (.int 0), (.int 0), (.int 0)] (.int 0)) (SZc : Sta Z Z.heap kS1 "COMPACT_STRINGS" "Z" (.int z0)) (hz0 : ¬ z0 = 0) (ga : n0 ≤ a1) (gd : n0 ≤ d1) (ned : t1 ≠ d1) :
  OwnM l Z h0 (⟨kS0, "append", "(Ljava/lang/String;)Ljava/lang/AbstractStringBuilder;"⟩ : MethodName) (Jvm.Cond.code (⟨kS0, "append", "(Ljava/lang/String;)Ljava/lang/AbstractStringBuilder;"⟩ : MethodName) jdk_68_method_22_code 3 (some (.object kS0)) :: ws) (RM 3 0 0 47) #[(.ref a1), (.ref x1)] (Qrm_aa_2_12_16 Z x1 t1 k1 xs0 xs1 a1 d1 kd xe0 xe1 xe2 xe3 xe4 xe5 xe6 xe7 xe8 xe9 xe10 xe11 z0 h0 n0) := by
 refine MetFree.of_bodySF (plainFor_of_name pn_6) hisR ?_
 intro p e s m args below meth c s₁ Bd hml0 hP hK
 obtain ⟨rfl, hZ, hh⟩ := hP
 have hx := Bd.exec
 have hby := Bd.bytes
 have hml : c.maxLocals = 3 := hml0
 have hown : s.vm.findClass kS0 = some m.cls := findClass_of_methodNamed Bd.named
 have hnm := (name_of_methodNamed Bd.named Bd.method).1
 have X0 : Stand p l e (RM 3 0 0 47) s m #[(.ref a1), (.ref x1)] below meth c s₁ [] 0 0 := Stand.of_body Bd
 have e0 : s₁.heap = h0 := by rw [← hh, Bd.state]; rfl
 have N0 := Fr.nil n0
 have pre0 : ∀ t, GO p e below s₁ (mkF m 0 (la6 a1 x1) []) t → GO p e below s₁ (entryFrame m #[(.ref a1), (.ref x1)] 3) t := fun t k => castTop (ef_rm_aa_2_12_16 m a1 x1) k
 have lt_Esx1 := ltA Esx1.lt
 have lt_Fcx1 := ltA Fcx1.lt
 have lt_Fvx1 := ltA Fvx1.lt
 have lt_Vsx1 := ltA Vsx1.lt
 have lt_Eb := ltA Eb.lt
 have lt_Fbv := ltA Fbv.lt
 have lt_Fbc := ltA Fbc.lt
 have lt_Fbn := ltA Fbn.lt
 have lt_Vb := ltA Vb.lt
 -- pc 10: String.length by rm_sl2
 obtain ⟨cq274, kq274, q274a, q274b, q274c⟩ := isOf hZ e0 Esx1
 obtain ⟨_, _, ⟨T274, L274, k274, n274⟩, -, X274, ⟨Lc274, hQ274, l274, y274, z274⟩, st274⟩ := X0.virtualBack hx (y := (⟨kS1, "length", "()I"⟩ : MethodName)) (z := (⟨kS1, "length", "()I"⟩ : MethodName)) hown (mvT hZ (wd hw 105 rfl)) (mvT hZ (wd hw 106 rfl)) (notFace_of_selects (args := #[]) (mvT hZ (wd hw 108 rfl))) (mvT hZ (wd hw 108 rfl)) (mvT hZ (wd hw 107 rfl)) (by decide) (backOf (W := 0) (rm_sl2 l Z a0 hw [] x1 t1 k1 xs0 xs1 z0 h0 n0 Z0 O0 Esx1 Fcx1 Fvx1 Vsx1 (by first | assumption | decide | omega) (by first | assumption | decide | omega)) hZ (wd hw 109 rfl) (wd hw 2 rfl) (by decide) (by decide)) q274a q274c (g := (mkF m 10 (la6 a1 x1) [(.ref x1)])) rfl (by rw [hml]; rfl) (Steps.refl _) (argsL := []) (rest := []) (lenOf pd_10 rfl) rfl (wz rfl) (hb hby d19_10) (fun _ _ => ⟨rfl, e0, (by decide : 0 + 0 ≤ _), (by decide : 0 + 0 ≤ _)⟩)
 dsimp only [Pt.U, Pt.locs, Pt.cells, Pt.slots] at X274 l274 y274 z274 st274 hQ274
 rw [l274, y274, z274] at X274
 obtain ⟨rfl, N274q, e274⟩ := hQ274
 have N274 := Fr.app N0 N274q
 obtain ⟨T275, X275, e275, st275⟩ := getF X274 hx hZ hown (host := "") (Or.inl (wd hw 115 rfl)) Via.refl e274 Fbn (g := (mkF m 16 (la0 a1 x1 (2 : Int32)) [(.ref a1), (.ref a1)])) rfl rfl (hb hby d19_16)
 -- pc 21: AbstractStringBuilder.ensureCapacityInternal by rm_en_16
 obtain ⟨cq276, q276a, q276b⟩ := Eb.cell
 obtain ⟨_, _, ⟨T276, L276, k276, n276⟩, -, X276, ⟨Lc276, hQ276, l276, y276, z276⟩, st276⟩ := X275.privateBack hx (y := (⟨kS0, "ensureCapacityInternal", "(I)V"⟩ : MethodName)) hown (mvT hZ (wd hw 117 rfl)) (mvT hZ (wd hw 118 rfl)) (mvT hZ (own_selfsel (wd hw 120 rfl) (wd hw 119 rfl) (wd hw 118 rfl) (by decide))) (Cond.privateMethod_at (mvP hZ (wd hw 119 rfl) (args := #[]))) (mvT hZ (wd hw 121 rfl)) (by decide) (backOf (W := 0) (rm_en_16 l Z a0 hw [] a1 d1 kd ([(.int xe0), (.int xe1), (.int xe2), (.int xe3), (.int xe4), (.int xe5), (.int xe6), (.int xe7), (.int xe8), (.int xe9), (.int xe10), (.int xe11), (.int 0), (.int 0), (.int 0), (.int 0)]) (14 : Int32) h0 n0 Z0 Fbv Fbc Vb (by decide)) hZ (wd hw 121 rfl) (wd hw 87 rfl) (by decide) (by decide)) (g := (mkF m 21 (la0 a1 x1 (2 : Int32)) [(.int 14), (.ref a1)])) rfl (by rw [hml]; rfl) (Steps.refl _) (a := a1) (by rw [e275]; exact q276a) q276b (argsL := [(.int 14)]) (rest := []) (lenOf pd_6 rfl) rfl (wz rfl) (hb hby d19_21) (fun _ _ => ⟨rfl, e275, (by decide : 0 + 0 ≤ _), (by decide : 0 + 0 ≤ _)⟩)
 dsimp only [Pt.U, Pt.locs, Pt.cells, Pt.slots] at X276 l276 y276 z276 st276 hQ276
 rw [l276, y276, z276] at X276
 obtain ⟨rfl, N276q, e276⟩ := hQ276
 have N276 := Fr.app N274 N276q
 obtain ⟨T277, X277, e277, st277⟩ := getF X276 hx hZ hown (host := "") (Or.inl (wd hw 115 rfl)) Via.refl e276 Fbn (g := (mkF m 26 (la0 a1 x1 (2 : Int32)) [(.ref a1), (.ref a1)])) rfl rfl (hb hby d19_26)
 -- pc 30: AbstractStringBuilder.putStringAt by rm_ps_2_12_16
 obtain ⟨cq278, q278a, q278b⟩ := Eb.cell
 obtain ⟨_, _, ⟨T278, L278, k278, n278⟩, -, X278, ⟨Lc278, hQ278, l278, y278, z278⟩, st278⟩ := X277.privateBack hx (y := (⟨kS0, "putStringAt", "(ILjava/lang/String;)V"⟩ : MethodName)) hown (mvT hZ (wd hw 122 rfl)) (mvT hZ (wd hw 123 rfl)) (mvT hZ (own_selfsel (wd hw 125 rfl) (wd hw 124 rfl) (wd hw 123 rfl) (by decide))) (Cond.privateMethod_at (mvP hZ (wd hw 124 rfl) (args := #[]))) (mvT hZ (wd hw 126 rfl)) (by decide) (backOf (W := 0) (rm_ps_2_12_16 l Z a0 hw [] x1 t1 k1 xs0 xs1 a1 d1 kd xe0 xe1 xe2 xe3 xe4 xe5 xe6 xe7 xe8 xe9 xe10 xe11 z0 h0 n0 Z0 O0 Esx1 Fcx1 Fvx1 Vsx1 Eb Fbv Fbc Fbn Vb (by first | assumption | decide | omega) (by first | assumption | decide | omega) (by first | assumption | decide | omega) ned) hZ (wd hw 126 rfl) (wd hw 87 rfl) (by decide) (by decide)) (g := (mkF m 30 (la0 a1 x1 (2 : Int32)) [(.ref x1), (.int 12), (.ref a1)])) rfl (by rw [hml]; rfl) (Steps.refl _) (a := a1) (by rw [e277]; exact q278a) q278b (argsL := [(.int 12), (.ref x1)]) (rest := []) (lenOf pd_11 rfl) rfl (wz rfl) (hb hby d19_30) (fun _ _ => ⟨rfl, e277, (by decide : 0 + 0 ≤ _), (by decide : 0 + 0 ≤ _)⟩)
 dsimp only [Pt.U, Pt.locs, Pt.cells, Pt.slots] at X278 l278 y278 z278 st278 hQ278
 rw [l278, y278, z278] at X278
 obtain ⟨h278, e278⟩ : ∃ z, T278.heap = z := ⟨_, rfl⟩
 rw [e278] at hQ278
 obtain ⟨rfl, N278q, K278, p278_0⟩ := hQ278
 have N278 := Fr.app N276 N278q
 have ne279 : d1 ≠ x1 := Ne.symm (Exa.neArv Esx1 Vb (wd hw 1 rfl))
 have ne280 : d1 ≠ a1 := Ne.symm (Exa.neArv Eb Vb (wd hw 78 rfl))
 have sz278 : h0.size ≤ h278.size := K278.1
 have nz278 := Nat.le_trans Z0 sz278
 have lt278_0 := ltA p278_0.lt
 have f281 : Fld Z h278 a1 kS0 "count" "I" (.int 12) := (Fbn.keep K278 (ninS (Ne.symm ne280) nin0))
 obtain ⟨T282, X282, e282, st282⟩ := getF X278 hx hZ hown (host := "") (Or.inl (wd hw 115 rfl)) Via.refl e278 f281 (g := (mkF m 35 (la0 a1 x1 (2 : Int32)) [(.ref a1), (.ref a1)])) rfl rfl (hb hby d19_35)
 have f283 : Exa Z h278 a1 kS2 := (Eb.keep K278)
 obtain ⟨T284, h284, X284, e284, W284, st284⟩ := putF X282 hx hZ hown (host := "") (Or.inl (wd hw 115 rfl)) Via.refl e282 f281 f283 (Or.inl (wd hw 116 rfl)) (wd hw 78 rfl) (ty := .int) (by decide) rfl rfl (g := (mkF m 40 (la0 a1 x1 (2 : Int32)) [(.int 14), (.ref a1)])) rfl rfl (hb hby d19_40)
 have ge285 : n0 ≤ a1 := by omega
 have N284 := Fr.snoc X284 N278 ge285
 have f286 : Exa Z h278 x1 kS1 := (Esx1.keep K278)
 have ne287 : a1 ≠ x1 := ne_exa f283 f286 (by decide)
 have f288 : Arv Z h278 t1 k1 .byte (2 : Int32) [(.int xs0), (.int xs1)] (.int 0) := (Vsx1.keep K278 (ninS ned nin0))
 have ne289 : a1 ≠ t1 := Exa.neArv f283 f288 (wd hw 78 rfl)
 have sz284 : h278.size ≤ h284.size := Nat.le_of_eq W284.size.symm
 have nz284 := Nat.le_trans nz278 sz284
 have f284 : Fld Z h284 a1 kS0 "count" "I" (.int 14) := f281.same W284
 have f290 : Exa Z h284 a1 kS2 := (f283.wr W284)
 have f291 : Fld Z h284 a1 kS0 "value" "[B" (.ref d1) := ((Fbv.keep K278 (ninS (Ne.symm ne280) nin0)).other W284 (Or.inr (slot_ne (Or.inl (wd hw 92 rfl)) (Or.inl (wd hw 116 rfl)) (by decide) (t := (.array .byte)) (t' := .int) (by decide) (by decide))))
 have f292 : Fld Z h284 a1 kS0 "coder" "B" (.int 0) := ((Fbc.keep K278 (ninS (Ne.symm ne280) nin0)).other W284 (Or.inr (slot_ne (Or.inl (wd hw 94 rfl)) (Or.inl (wd hw 116 rfl)) (by decide) (t := .byte) (t' := .int) (by decide) (by decide))))
 have f293 : Arv Z h284 d1 kd .byte (16 : Int32) [(.int xe0), (.int xe1), (.int xe2), (.int xe3), (.int xe4), (.int xe5), (.int xe6), (.int xe7), (.int xe8), (.int xe9), (.int xe10), (.int xe11), (.int xs0), (.int xs1), (.int 0), (.int 0)] (.int 0) := (p278_0.other W284 ne280)
 obtain ⟨fs, hr, hrun, hended, hW, hsame⟩ := X284.leave (v := some (.ref a1)) (fun h => by rw [Bd.returns] at h; cases h)
 refine ⟨_, _, pre0 _ ?_, hrun, hended, _, _, rfl, ?_, ⟨_, rfl⟩, hW, hsame.mono (by decide) (by decide)⟩
 ·show GO p e below s₁ (mkF m 0 (la6 a1 x1) []) _
  refine XS.aloadN X0.here hx rfl (hb hby d19_0) rfl rfl ?_
  show GO p e below s₁ (mkF m 1 (la6 a1 x1) [(.ref x1)]) _
  refine XS.ifnonnullYes X0.here hx rfl (pc0 := 1) (pc' := 9) rfl (hb hby d19_1) rfl (by decide) (by decide) ?_
  show GO p e below s₁ (mkF m 9 (la6 a1 x1) []) _
  refine XS.aloadN X0.here hx rfl (hb hby d19_9) rfl rfl ?_
  show GO p e below s₁ (mkF m 10 (la6 a1 x1) [(.ref x1)]) _
  refine st274.trans ?_
  show GO p e below T274 (mkF m 13 (la6 a1 x1) [(.int 2)]) _
  refine XS.istoreN X274.here hx rfl (hb hby d19_13) rfl (l' := (la0 a1 x1 (2 : Int32))) rfl ?_
  show GO p e below T274 (mkF m 14 (la0 a1 x1 (2 : Int32)) []) _
  refine XS.aloadN X274.here hx rfl (hb hby d19_14) rfl rfl ?_
  show GO p e below T274 (mkF m 15 (la0 a1 x1 (2 : Int32)) [(.ref a1)]) _
  refine XS.aloadN X274.here hx rfl (hb hby d19_15) rfl rfl ?_
  show GO p e below T274 (mkF m 16 (la0 a1 x1 (2 : Int32)) [(.ref a1), (.ref a1)]) _
  refine st275 _ ?_
  show GO p e below T275 (mkF m 19 (la0 a1 x1 (2 : Int32)) [(.int 12), (.ref a1)]) _
  refine XS.iloadN X275.here hx rfl (hb hby d19_19) rfl ?_
  show GO p e below T275 (mkF m 20 (la0 a1 x1 (2 : Int32)) [(.int 2), (.int 12), (.ref a1)]) _
  refine XS.iadd X275.here hx rfl (hb hby d19_20) rfl ?_
  rw [show ((12 : Int32) + (2 : Int32)) = (14 : Int32) from by decide]
  show GO p e below T275 (mkF m 21 (la0 a1 x1 (2 : Int32)) [(.int 14), (.ref a1)]) _
  refine st276.trans ?_
  show GO p e below T276 (mkF m 24 (la0 a1 x1 (2 : Int32)) []) _
  refine XS.aloadN X276.here hx rfl (hb hby d19_24) rfl rfl ?_
  show GO p e below T276 (mkF m 25 (la0 a1 x1 (2 : Int32)) [(.ref a1)]) _
  refine XS.aloadN X276.here hx rfl (hb hby d19_25) rfl rfl ?_
  show GO p e below T276 (mkF m 26 (la0 a1 x1 (2 : Int32)) [(.ref a1), (.ref a1)]) _
  refine st277 _ ?_
  show GO p e below T277 (mkF m 29 (la0 a1 x1 (2 : Int32)) [(.int 12), (.ref a1)]) _
  refine XS.aloadN X277.here hx rfl (hb hby d19_29) rfl rfl ?_
  show GO p e below T277 (mkF m 30 (la0 a1 x1 (2 : Int32)) [(.ref x1), (.int 12), (.ref a1)]) _
  refine st278.trans ?_
  show GO p e below T278 (mkF m 33 (la0 a1 x1 (2 : Int32)) []) _
  refine XS.aloadN X278.here hx rfl (hb hby d19_33) rfl rfl ?_
  show GO p e below T278 (mkF m 34 (la0 a1 x1 (2 : Int32)) [(.ref a1)]) _
  refine XS.dup X278.here hx rfl (hb hby d19_34) rfl rfl ?_
  show GO p e below T278 (mkF m 35 (la0 a1 x1 (2 : Int32)) [(.ref a1), (.ref a1)]) _
  refine st282 _ ?_
  show GO p e below T282 (mkF m 38 (la0 a1 x1 (2 : Int32)) [(.int 12), (.ref a1)]) _
  refine XS.iloadN X282.here hx rfl (hb hby d19_38) rfl ?_
  show GO p e below T282 (mkF m 39 (la0 a1 x1 (2 : Int32)) [(.int 2), (.int 12), (.ref a1)]) _
  refine XS.iadd X282.here hx rfl (hb hby d19_39) rfl ?_
  rw [show ((12 : Int32) + (2 : Int32)) = (14 : Int32) from by decide]
  show GO p e below T282 (mkF m 40 (la0 a1 x1 (2 : Int32)) [(.int 14), (.ref a1)]) _
  refine st284 _ ?_
  show GO p e below T284 (mkF m 43 (la0 a1 x1 (2 : Int32)) []) _
  refine XS.aloadN X284.here hx rfl (hb hby d19_43) rfl rfl ?_
  show GO p e below T284 (mkF m 44 (la0 a1 x1 (2 : Int32)) [(.ref a1)]) _
  exact retOut X284 hx Bd.returns rfl (Or.inr (Or.inr (Or.inr (Or.inr ⟨rfl, rfl, rfl⟩)))) (hb hby d19_44) hr
 ·show Qrm_aa_2_12_16 Z x1 t1 k1 xs0 xs1 a1 d1 kd xe0 xe1 xe2 xe3 xe4 xe5 xe6 xe7 xe8 xe9 xe10 xe11 z0 h0 n0 _ T284.heap _
  rw [e284]
  exact ⟨rfl, N284, (((Keep.refl h0 [a1, d1]).trans K278 (allS (P := fun x => x ∈ _ ∨ _) (Or.inl (List.mem_of_getElem? (i := 1) rfl)) all0)).wr W284 (Or.inl (List.mem_of_getElem? (i := 0) rfl))), f290, f291, f292, f284, f293⟩
def Qrm_sa_2_12_16 (Z : State) (x1 : Addr) (t1 : Addr) (k1 : ClassId) (xs0 : Int32) (xs1 : Int32) (a1 : Addr) (d1 : Addr) (kd : ClassId) (xe0 : Int32) (xe1 : Int32) (xe2 : Int32) (xe3 : Int32) (xe4 : Int32) (xe5 : Int32) (xe6 : Int32) (xe7 : Int32) (xe8 : Int32) (xe9 : Int32) (xe10 : Int32) (xe11 : Int32) (z0 : Int32) (h0 : Heap) (n0 : Nat) (v : Option Value) (h : Heap) (L : List Loc) : Prop := v = some (.ref a1) ∧ Fr n0 L ∧ Keep h0 h [a1, d1] ∧ Exa Z h a1 kS2 ∧ Fld Z h a1 kS0 "value" "[B" (.ref d1) ∧ Fld Z h a1 kS0 "coder" "B" (.int 0) ∧ Fld Z h a1 kS0 "count" "I" (.int 14) ∧ Arv Z h d1 kd .byte (16 : Int32) [(.int xe0), (.int xe1), (.int xe2), (.int xe3), (.int xe4), (.int xe5), (.int xe6), (.int xe7), (.int xe8), (.int xe9), (.int xe10), (.int xe11), (.int xs0), (.int xs1), (.int 0), (.int 0)] (.int 0)
theorem ef_rm_sa_2_12_16 (m : MethodId) (x0 : Addr) (x1 : Addr) : entryFrame m #[(.ref x0), (.ref x1)] 2 = mkF m 0 #[.val (.ref x0), .val (.ref x1)] [] := by first | rfl | (simp [entryFrame, mkF, argsToLocals, Value.category]; done)
theorem rm_sa_2_12_16 (l : Launch) (Z : State) (a0 : Array Value) (hw : HW Z a0) (ws : List Jvm.Cond) (x1 : Addr) (t1 : Addr) (k1 : ClassId) (xs0 : Int32) (xs1 : Int32) (a1 : Addr) (d1 : Addr) (kd : ClassId) (xe0 : Int32) (xe1 : Int32) (xe2 : Int32) (xe3 : Int32) (xe4 : Int32) (xe5 : Int32) (xe6 : Int32) (xe7 : Int32) (xe8 : Int32) (xe9 : Int32) (xe10 : Int32) (xe11 : Int32) (z0 : Int32) (h0 : Heap) (n0 : Nat) (Z0 : n0 ≤ h0.size) (O0 : Old Z n0 h0) (Esx1 : Exa Z h0 x1 kS1) (Fcx1 : Fld Z h0 x1 kS1 "coder" "B" (.int 0)) (Fvx1 : Fld Z h0 x1 kS1 "value" "[B" (.ref t1)) (Vsx1 : Arv Z h0 t1 k1 .byte (2 : Int32) [(.int xs0), (.int xs1)] (.int 0)) (Eb : Exa Z h0 a1 kS2) (Fbv : Fld Z h0 a1 kS0 "value" "[B" (.ref d1)) (Fbc : Fld Z h0 a1 kS0 "coder" "B" (.int 0)) (Fbn : Fld Z h0 a1 kS0 "count" "I" (.int 12)) (Vb : Arv Z h0 d1 kd .byte (16 : Int32) [(.int xe0), (.int xe1), (.int xe2), (.int xe3), (.int xe4), (.int xe5), (.int xe6), (.int xe7), (.int xe8), (.int xe9), (.int xe10), (.int xe11), (.int 0), (.int 0), (.int 0), (.int 0)] (.int 0)) (SZc : Sta Z Z.heap kS1 "COMPACT_STRINGS" "Z" (.int z0)) (hz0 : ¬ z0 = 0) (ga : n0 ≤ a1) (gd : n0 ≤ d1) (ned : t1 ≠ d1) :
  OwnM l Z h0 (⟨kS2, "append", "(Ljava/lang/String;)Ljava/lang/StringBuilder;"⟩ : MethodName) (Jvm.Cond.code (⟨kS2, "append", "(Ljava/lang/String;)Ljava/lang/StringBuilder;"⟩ : MethodName) jdk_67_method_7_code 2 (some (.object kS2)) :: ws) (RM 4 0 0 61) #[(.ref a1), (.ref x1)] (Qrm_sa_2_12_16 Z x1 t1 k1 xs0 xs1 a1 d1 kd xe0 xe1 xe2 xe3 xe4 xe5 xe6 xe7 xe8 xe9 xe10 xe11 z0 h0 n0) := by
 refine MetFree.of_bodySF (plainFor_of_name pn_7) hisR ?_
 intro p e s m args below meth c s₁ Bd hml0 hP hK
 obtain ⟨rfl, hZ, hh⟩ := hP
 have hx := Bd.exec
 have hby := Bd.bytes
 have hml : c.maxLocals = 2 := hml0
 have hown : s.vm.findClass kS2 = some m.cls := findClass_of_methodNamed Bd.named
 have hnm := (name_of_methodNamed Bd.named Bd.method).1
 have X0 : Stand p l e (RM 4 0 0 61) s m #[(.ref a1), (.ref x1)] below meth c s₁ [] 0 0 := Stand.of_body Bd
 have e0 : s₁.heap = h0 := by rw [← hh, Bd.state]; rfl
 have N0 := Fr.nil n0
 have pre0 : ∀ t, GO p e below s₁ (mkF m 0 #[.val (.ref a1), .val (.ref x1)] []) t → GO p e below s₁ (entryFrame m #[(.ref a1), (.ref x1)] 2) t := fun t k => castTop (ef_rm_sa_2_12_16 m a1 x1) k
 have lt_Esx1 := ltA Esx1.lt
 have lt_Fcx1 := ltA Fcx1.lt
 have lt_Fvx1 := ltA Fvx1.lt
 have lt_Vsx1 := ltA Vsx1.lt
 have lt_Eb := ltA Eb.lt
 have lt_Fbv := ltA Fbv.lt
 have lt_Fbc := ltA Fbc.lt
 have lt_Fbn := ltA Fbn.lt
 have lt_Vb := ltA Vb.lt
 -- pc 2: AbstractStringBuilder.append by rm_aa_2_12_16
 obtain ⟨_, _, ⟨T294, L294, k294, n294⟩, -, X294, ⟨Lc294, hQ294, l294, y294, z294⟩, st294⟩ := superBack X0 hx hZ (y := (⟨kS0, "append", "(Ljava/lang/String;)Ljava/lang/AbstractStringBuilder;"⟩ : MethodName)) hown (wd hw 100 rfl) (own_sameM (y := (⟨kS0, "append", "(Ljava/lang/String;)Ljava/lang/AbstractStringBuilder;"⟩ : MethodName)) (wd hw 101 rfl) (wd hw 120 rfl) rfl (by decide)) (wd hw 101 rfl) (wd hw 102 rfl) (by decide) (backOf (W := 0) (rm_aa_2_12_16 l Z a0 hw [] x1 t1 k1 xs0 xs1 a1 d1 kd xe0 xe1 xe2 xe3 xe4 xe5 xe6 xe7 xe8 xe9 xe10 xe11 z0 h0 n0 Z0 O0 Esx1 Fcx1 Fvx1 Vsx1 Eb Fbv Fbc Fbn Vb (by first | assumption | decide | omega) (by first | assumption | decide | omega) (by first | assumption | decide | omega) (by first | assumption | decide | omega) ned) hZ (wd hw 104 rfl) (wd hw 87 rfl) (by decide) (by decide)) e0 (Ins.self Eb) (g := (mkF m 2 #[.val (.ref a1), .val (.ref x1)] [(.ref x1), (.ref a1)])) rfl (by rw [hml]; rfl) (wd hw 104 rfl) (argsL := [(.ref x1)]) (rest := []) (lenOf pd_12 rfl) rfl (wz rfl) (hb hby d18_2) (fun _ _ => ⟨rfl, e0, (by decide : 0 + 0 ≤ _), (by decide : 0 + 0 ≤ _)⟩)
 dsimp only [Pt.U, Pt.locs, Pt.cells, Pt.slots] at X294 l294 y294 z294 st294 hQ294
 rw [l294, y294, z294] at X294
 obtain ⟨h294, e294⟩ : ∃ z, T294.heap = z := ⟨_, rfl⟩
 rw [e294] at hQ294
 obtain ⟨rfl, N294q, K294, p294_0, p294_1, p294_2, p294_3, p294_4⟩ := hQ294
 have N294 := Fr.app N0 N294q
 have ne295 : a1 ≠ x1 := ne_exa Eb Esx1 (by decide)
 have ne296 : a1 ≠ d1 := Exa.neArv Eb Vb (wd hw 78 rfl)
 have ne297 : a1 ≠ t1 := Exa.neArv Eb Vsx1 (wd hw 78 rfl)
 have ne298 : d1 ≠ x1 := Ne.symm (Exa.neArv Esx1 Vb (wd hw 1 rfl))
 have sz294 : h0.size ≤ h294.size := K294.1
 have nz294 := Nat.le_trans Z0 sz294
 have lt294_0 := ltA p294_0.lt
 have lt294_4 := ltA p294_4.lt
 obtain ⟨fs, hr, hrun, hended, hW, hsame⟩ := X294.leave (v := some (.ref a1)) (fun h => by rw [Bd.returns] at h; cases h)
 refine ⟨_, _, pre0 _ ?_, hrun, hended, _, _, rfl, ?_, ⟨_, rfl⟩, hW, hsame.mono (by decide) (by decide)⟩
 ·show GO p e below s₁ (mkF m 0 #[.val (.ref a1), .val (.ref x1)] []) _
  refine XS.aloadN X0.here hx rfl (hb hby d18_0) rfl rfl ?_
  show GO p e below s₁ (mkF m 1 #[.val (.ref a1), .val (.ref x1)] [(.ref a1)]) _
  refine XS.aloadN X0.here hx rfl (hb hby d18_1) rfl rfl ?_
  show GO p e below s₁ (mkF m 2 #[.val (.ref a1), .val (.ref x1)] [(.ref x1), (.ref a1)]) _
  refine st294.trans ?_
  show GO p e below T294 (mkF m 5 #[.val (.ref a1), .val (.ref x1)] [(.ref a1)]) _
  refine XS.pop X294.here hx rfl (hb hby d18_5) rfl rfl ?_
  show GO p e below T294 (mkF m 6 #[.val (.ref a1), .val (.ref x1)] []) _
  refine XS.aloadN X294.here hx rfl (hb hby d18_6) rfl rfl ?_
  show GO p e below T294 (mkF m 7 #[.val (.ref a1), .val (.ref x1)] [(.ref a1)]) _
  exact retOut X294 hx Bd.returns rfl (Or.inr (Or.inr (Or.inr (Or.inr ⟨rfl, rfl, rfl⟩)))) (hb hby d18_7) hr
 ·show Qrm_sa_2_12_16 Z x1 t1 k1 xs0 xs1 a1 d1 kd xe0 xe1 xe2 xe3 xe4 xe5 xe6 xe7 xe8 xe9 xe10 xe11 z0 h0 n0 _ T294.heap _
  rw [e294]
  exact ⟨rfl, N294, ((Keep.refl h0 [a1, d1]).trans K294 (allS (P := fun x => x ∈ _ ∨ _) (Or.inl (List.mem_of_getElem? (i := 0) rfl)) (allS (P := fun x => x ∈ _ ∨ _) (Or.inl (List.mem_of_getElem? (i := 1) rfl)) all0))), p294_0, p294_1, p294_2, p294_3, p294_4⟩
def Qrm_mx_2_18 (Z : State)  (h0 : Heap) (n0 : Nat) (v : Option Value) (h : Heap) (L : List Loc) : Prop := v = some (.int 18) ∧ Fr n0 L ∧ h = h0
theorem ef_rm_mx_2_18 (m : MethodId) (x0 : Int32) (x1 : Int32) : entryFrame m #[(.int x0), (.int x1)] 2 = mkF m 0 #[.val (.int x0), .val (.int x1)] [] := by first | rfl | (simp [entryFrame, mkF, argsToLocals, Value.category]; done)
theorem rm_mx_2_18 (l : Launch) (Z : State) (a0 : Array Value) (hw : HW Z a0) (ws : List Jvm.Cond)  (h0 : Heap) (n0 : Nat) (Z0 : n0 ≤ h0.size) :
  OwnM l Z h0 (⟨"java/lang/Math", "max", "(II)I"⟩ : MethodName) (Jvm.Cond.code (⟨"java/lang/Math", "max", "(II)I"⟩ : MethodName) jdk_29_method_65_code 2 (some .int) :: ws) (RM 0 0 0 0) #[(.int 2), (.int 18)] (Qrm_mx_2_18 Z  h0 n0) := by
 refine MetFree.of_bodySF (Jvm.Free.JP.mathPlain rfl (by decide +kernel)) hisR ?_
 intro p e s m args below meth c s₁ Bd hml0 hP hK
 obtain ⟨rfl, hZ, hh⟩ := hP
 have hx := Bd.exec
 have hby := Bd.bytes
 have hml : c.maxLocals = 2 := hml0
 have hown : s.vm.findClass "java/lang/Math" = some m.cls := findClass_of_methodNamed Bd.named
 have hnm := (name_of_methodNamed Bd.named Bd.method).1
 have X0 : Stand p l e (RM 0 0 0 0) s m #[(.int 2), (.int 18)] below meth c s₁ [] 0 0 := Stand.of_body Bd
 have e0 : s₁.heap = h0 := by rw [← hh, Bd.state]; rfl
 have N0 := Fr.nil n0
 have pre0 : ∀ t, GO p e below s₁ (mkF m 0 #[.val (.int 2), .val (.int 18)] []) t → GO p e below s₁ (entryFrame m #[(.int 2), (.int 18)] 2) t := fun t k => castTop (ef_rm_mx_2_18 m ((2 : Int32)) ((18 : Int32))) k
 obtain ⟨fs, hr, hrun, hended, hW, hsame⟩ := X0.leave (v := some (.int 18)) (fun h => by rw [Bd.returns] at h; cases h)
 refine ⟨_, _, pre0 _ ?_, hrun, hended, _, _, rfl, ?_, ⟨_, rfl⟩, hW, hsame.mono (by decide) (by decide)⟩
 ·show GO p e below s₁ (mkF m 0 #[.val (.int 2), .val (.int 18)] []) _
  refine XS.iloadN X0.here hx rfl (hb hby d44_0) rfl ?_
  show GO p e below s₁ (mkF m 1 #[.val (.int 2), .val (.int 18)] [(.int 2)]) _
  refine XS.iloadN X0.here hx rfl (hb hby d44_1) rfl ?_
  show GO p e below s₁ (mkF m 2 #[.val (.int 2), .val (.int 18)] [(.int 18), (.int 2)]) _
  refine XS.icmpYes X0.here hx rfl (pc0 := 2) (pc' := 9) rfl (hb hby d44_2) rfl (tlt ((by decide) : (2 : Int32) < (18 : Int32))).1 (by decide) (by decide) ?_
  show GO p e below s₁ (mkF m 9 #[.val (.int 2), .val (.int 18)] []) _
  refine XS.iloadN X0.here hx rfl (hb hby d44_9) rfl ?_
  show GO p e below s₁ (mkF m 10 #[.val (.int 2), .val (.int 18)] [(.int 18)]) _
  exact retI X0 hx Bd.returns (hb hby d44_10) hr
 ·show Qrm_mx_2_18 Z  h0 n0 _ s₁.heap _
  rw [e0]
  exact ⟨rfl, N0, rfl⟩
def Qrm_nl_16_18 (Z : State)  (h0 : Heap) (n0 : Nat) (v : Option Value) (h : Heap) (L : List Loc) : Prop := v = some (.int 34) ∧ Fr n0 L ∧ h = h0
theorem ef_rm_nl_16_18 (m : MethodId) (x0 : Int32) (x1 : Int32) (x2 : Int32) : entryFrame m #[(.int x0), (.int x1), (.int x2)] 4 = mkF m 0 (la13 x0 x1 x2) [] := by first | rfl | (simp [entryFrame, mkF, argsToLocals, Value.category]; done)
theorem rm_nl_16_18 (l : Launch) (Z : State) (a0 : Array Value) (hw : HW Z a0) (ws : List Jvm.Cond)  (h0 : Heap) (n0 : Nat) (Z0 : n0 ≤ h0.size) :
  OwnM l Z h0 (⟨"jdk/internal/util/ArraysSupport", "newLength", "(III)I"⟩ : MethodName) (Jvm.Cond.code (⟨"jdk/internal/util/ArraysSupport", "newLength", "(III)I"⟩ : MethodName) jdk_48_method_27_code 4 (some .int) :: ws) (RM 1 0 0 14) #[(.int 16), (.int 2), (.int 18)] (Qrm_nl_16_18 Z  h0 n0) := by
 refine MetFree.of_bodySF (plainFor_of_name pn_9) hisR ?_
 intro p e s m args below meth c s₁ Bd hml0 hP hK
 obtain ⟨rfl, hZ, hh⟩ := hP
 have hx := Bd.exec
 have hby := Bd.bytes
 have hml : c.maxLocals = 4 := hml0
 have hown : s.vm.findClass "jdk/internal/util/ArraysSupport" = some m.cls := findClass_of_methodNamed Bd.named
 have hnm := (name_of_methodNamed Bd.named Bd.method).1
 have X0 : Stand p l e (RM 1 0 0 14) s m #[(.int 16), (.int 2), (.int 18)] below meth c s₁ [] 0 0 := Stand.of_body Bd
 have e0 : s₁.heap = h0 := by rw [← hh, Bd.state]; rfl
 have N0 := Fr.nil n0
 have pre0 : ∀ t, GO p e below s₁ (mkF m 0 (la13 (16 : Int32) (2 : Int32) (18 : Int32)) []) t → GO p e below s₁ (entryFrame m #[(.int 16), (.int 2), (.int 18)] 4) t := fun t k => castTop (ef_rm_nl_16_18 m ((16 : Int32)) ((2 : Int32)) ((18 : Int32))) k
 -- pc 3: Math.max by rm_mx_2_18
 obtain ⟨_, _, ⟨T299, L299, k299, n299⟩, -, X299, ⟨Lc299, hQ299, l299, y299, z299⟩, st299⟩ := Jvm.LawKit.callS X0 hx (y := (⟨"java/lang/Math", "max", "(II)I"⟩ : MethodName)) hown (mvT hZ (wd hw 223 rfl)) (mvT hZ (wd hw 224 rfl)) (mvT hZ (wd hw 187 rfl)) (mvT hZ (wd hw 225 rfl)) (by decide) (backOf (W := 1) (rm_mx_2_18 l Z a0 hw []  h0 n0 Z0) hZ (wd hw 225 rfl) (wd hw 187 rfl) (by decide) (by decide)) (g := (mkF m 3 (la13 (16 : Int32) (2 : Int32) (18 : Int32)) [(.int 18), (.int 2), (.int 16)])) rfl (by rw [hml]; rfl) (argsL := [(.int 2), (.int 18)]) (rest := [(.int 16)]) (lenOf pd_14 rfl) rfl (wz rfl) (hb hby d43_3) (fun _ _ => ⟨rfl, e0, (by decide : 0 + 0 ≤ _), (by decide : 0 + 0 ≤ _)⟩)
 dsimp only [Pt.U, Pt.locs, Pt.cells, Pt.slots] at X299 l299 y299 z299 st299 hQ299
 rw [l299, y299, z299] at X299
 obtain ⟨rfl, N299q, e299⟩ := hQ299
 have N299 := Fr.app N0 N299q
 obtain ⟨fs, hr, hrun, hended, hW, hsame⟩ := X299.leave (v := some (.int 34)) (fun h => by rw [Bd.returns] at h; cases h)
 refine ⟨_, _, pre0 _ ?_, hrun, hended, _, _, rfl, ?_, ⟨_, rfl⟩, hW, hsame.mono (by decide) (by decide)⟩
 ·show GO p e below s₁ (mkF m 0 (la13 (16 : Int32) (2 : Int32) (18 : Int32)) []) _
  refine XS.iloadN X0.here hx rfl (hb hby d43_0) rfl ?_
  show GO p e below s₁ (mkF m 1 (la13 (16 : Int32) (2 : Int32) (18 : Int32)) [(.int 16)]) _
  refine XS.iloadN X0.here hx rfl (hb hby d43_1) rfl ?_
  show GO p e below s₁ (mkF m 2 (la13 (16 : Int32) (2 : Int32) (18 : Int32)) [(.int 2), (.int 16)]) _
  refine XS.iloadN X0.here hx rfl (hb hby d43_2) rfl ?_
  show GO p e below s₁ (mkF m 3 (la13 (16 : Int32) (2 : Int32) (18 : Int32)) [(.int 18), (.int 2), (.int 16)]) _
  refine st299 _ ?_
  show GO p e below T299 (mkF m 6 (la13 (16 : Int32) (2 : Int32) (18 : Int32)) [(.int 18), (.int 16)]) _
  refine XS.iadd X299.here hx rfl (hb hby d43_6) rfl ?_
  rw [show ((16 : Int32) + (18 : Int32)) = (34 : Int32) from by decide]
  show GO p e below T299 (mkF m 7 (la13 (16 : Int32) (2 : Int32) (18 : Int32)) [(.int 34)]) _
  refine XS.istoreN X299.here hx rfl (hb hby d43_7) rfl (l' := (la14 (16 : Int32) (2 : Int32) (18 : Int32) (34 : Int32))) rfl ?_
  show GO p e below T299 (mkF m 8 (la14 (16 : Int32) (2 : Int32) (18 : Int32) (34 : Int32)) []) _
  refine XS.iconst X299.here hx rfl (hb hby d43_8) ?_
  show GO p e below T299 (mkF m 9 (la14 (16 : Int32) (2 : Int32) (18 : Int32) (34 : Int32)) [(.int 0)]) _
  refine XS.iloadN X299.here hx rfl (hb hby d43_9) rfl ?_
  show GO p e below T299 (mkF m 10 (la14 (16 : Int32) (2 : Int32) (18 : Int32) (34 : Int32)) [(.int 34), (.int 0)]) _
  refine XS.icmpNo X299.here hx rfl (hb hby d43_10) rfl (tlt ((by decide) : (0 : Int32) < (34 : Int32))).2.1 ?_
  show GO p e below T299 (mkF m 13 (la14 (16 : Int32) (2 : Int32) (18 : Int32) (34 : Int32)) []) _
  refine XS.iloadN X299.here hx rfl (hb hby d43_13) rfl ?_
  show GO p e below T299 (mkF m 14 (la14 (16 : Int32) (2 : Int32) (18 : Int32) (34 : Int32)) [(.int 34)]) _
  refine X299.ldcInt hx hown (mvT hZ (wd hw 226 rfl)) (g := (mkF m 14 (la14 (16 : Int32) (2 : Int32) (18 : Int32) (34 : Int32)) [(.int 34)])) rfl (hb hby d43_14) _ ?_
  show GO p e below T299 (mkF m 16 (la14 (16 : Int32) (2 : Int32) (18 : Int32) (34 : Int32)) [(.int 2147483639), (.int 34)]) _
  refine XS.icmpNo X299.here hx rfl (hb hby d43_16) rfl (flt ((by decide) : ¬ ((2147483639 : Int32) < (34 : Int32)))).2.2.1 ?_
  show GO p e below T299 (mkF m 19 (la14 (16 : Int32) (2 : Int32) (18 : Int32) (34 : Int32)) []) _
  refine XS.iloadN X299.here hx rfl (hb hby d43_19) rfl ?_
  show GO p e below T299 (mkF m 20 (la14 (16 : Int32) (2 : Int32) (18 : Int32) (34 : Int32)) [(.int 34)]) _
  exact retI X299 hx Bd.returns (hb hby d43_20) hr
 ·show Qrm_nl_16_18 Z  h0 n0 _ T299.heap _
  rw [e299]
  exact ⟨rfl, N299, rfl⟩
def Qrm_nc_16_18 (Z : State) (a1 : Addr) (d1 : Addr) (kd : ClassId) (xe0 : Int32) (xe1 : Int32) (xe2 : Int32) (xe3 : Int32) (xe4 : Int32) (xe5 : Int32) (xe6 : Int32) (xe7 : Int32) (xe8 : Int32) (xe9 : Int32) (xe10 : Int32) (xe11 : Int32) (xe12 : Int32) (xe13 : Int32) (h0 : Heap) (n0 : Nat) (v : Option Value) (h : Heap) (L : List Loc) : Prop := v = some (.int 34) ∧ Fr n0 L ∧ h = h0
theorem ef_rm_nc_16_18 (m : MethodId) (x0 : Addr) (x1 : Int32) : entryFrame m #[(.ref x0), (.int x1)] 6 = mkF m 0 (la15 x0 x1) [] := by first | rfl | (simp [entryFrame, mkF, argsToLocals, Value.category]; done)
theorem rm_nc_16_18 (l : Launch) (Z : State) (a0 : Array Value) (hw : HW Z a0) (ws : List Jvm.Cond) (a1 : Addr) (d1 : Addr) (kd : ClassId) (xe0 : Int32) (xe1 : Int32) (xe2 : Int32) (xe3 : Int32) (xe4 : Int32) (xe5 : Int32) (xe6 : Int32) (xe7 : Int32) (xe8 : Int32) (xe9 : Int32) (xe10 : Int32) (xe11 : Int32) (xe12 : Int32) (xe13 : Int32) (h0 : Heap) (n0 : Nat) (Z0 : n0 ≤ h0.size) (Fbv : Fld Z h0 a1 kS0 "value" "[B" (.ref d1)) (Fbc : Fld Z h0 a1 kS0 "coder" "B" (.int 0)) (Vb : Arv Z h0 d1 kd .byte (16 : Int32) [(.int xe0), (.int xe1), (.int xe2), (.int xe3), (.int xe4), (.int xe5), (.int xe6), (.int xe7), (.int xe8), (.int xe9), (.int xe10), (.int xe11), (.int xe12), (.int xe13), (.int 0), (.int 0)] (.int 0)) :
  OwnM l Z h0 (⟨kS0, "newCapacity", "(I)I"⟩ : MethodName) (Jvm.Cond.code (⟨kS0, "newCapacity", "(I)I"⟩ : MethodName) jdk_68_method_10_code 6 (some .int) :: ws) (RM 2 0 0 29) #[(.ref a1), (.int 18)] (Qrm_nc_16_18 Z a1 d1 kd xe0 xe1 xe2 xe3 xe4 xe5 xe6 xe7 xe8 xe9 xe10 xe11 xe12 xe13 h0 n0) := by
 refine MetFree.of_bodySF (plainFor_of_name pn_6) hisR ?_
 intro p e s m args below meth c s₁ Bd hml0 hP hK
 obtain ⟨rfl, hZ, hh⟩ := hP
 have hx := Bd.exec
 have hby := Bd.bytes
 have hml : c.maxLocals = 6 := hml0
 have hown : s.vm.findClass kS0 = some m.cls := findClass_of_methodNamed Bd.named
 have hnm := (name_of_methodNamed Bd.named Bd.method).1
 have X0 : Stand p l e (RM 2 0 0 29) s m #[(.ref a1), (.int 18)] below meth c s₁ [] 0 0 := Stand.of_body Bd
 have e0 : s₁.heap = h0 := by rw [← hh, Bd.state]; rfl
 have N0 := Fr.nil n0
 have pre0 : ∀ t, GO p e below s₁ (mkF m 0 (la15 a1 (18 : Int32)) []) t → GO p e below s₁ (entryFrame m #[(.ref a1), (.int 18)] 6) t := fun t k => castTop (ef_rm_nc_16_18 m a1 ((18 : Int32))) k
 have lt_Fbv := ltA Fbv.lt
 have lt_Fbc := ltA Fbc.lt
 have lt_Vb := ltA Vb.lt
 obtain ⟨T300, X300, e300, st300⟩ := getF X0 hx hZ hown (host := "") (Or.inl (wd hw 91 rfl)) Via.refl e0 Fbv (g := (mkF m 1 (la15 a1 (18 : Int32)) [(.ref a1)])) rfl rfl (hb hby d42_1)
 obtain ⟨cl301, Ar301, -, S301, M301, -, -⟩ := id Vb
 obtain ⟨T302, X302, e302, st302⟩ := getF X300 hx hZ hown (host := "") (Or.inl (wd hw 93 rfl)) Via.refl e300 Fbc (g := (mkF m 8 (la16 a1 (18 : Int32) (16 : Int32)) [(.ref a1), (.int 18)])) rfl rfl (hb hby d42_8)
 obtain ⟨T303, X303, e303, st303⟩ := getF X302 hx hZ hown (host := "") (Or.inl (wd hw 93 rfl)) Via.refl e302 Fbc (g := (mkF m 24 (la18 a1 (18 : Int32) (16 : Int32) (18 : Int32) (2 : Int32)) [(.ref a1), (.int 2), (.int 16), (.int 2), (.int 16)])) rfl rfl (hb hby d42_24)
 -- pc 29: ArraysSupport.newLength by rm_nl_16_18
 obtain ⟨_, _, ⟨T304, L304, k304, n304⟩, -, X304, ⟨Lc304, hQ304, l304, y304, z304⟩, st304⟩ := Jvm.LawKit.callS X303 hx (y := (⟨"jdk/internal/util/ArraysSupport", "newLength", "(III)I"⟩ : MethodName)) hown (mvT hZ (wd hw 219 rfl)) (mvT hZ (wd hw 220 rfl)) (mvT hZ (wd hw 221 rfl)) (mvT hZ (wd hw 222 rfl)) (by decide) (backOf (W := 0) (rm_nl_16_18 l Z a0 hw []  h0 n0 Z0) hZ (wd hw 222 rfl) (wd hw 221 rfl) (by decide) (by decide)) (g := (mkF m 29 (la18 a1 (18 : Int32) (16 : Int32) (18 : Int32) (2 : Int32)) [(.int 18), (.int 2), (.int 16)])) rfl (by rw [hml]; rfl) (argsL := [(.int 16), (.int 2), (.int 18)]) (rest := []) (lenOf pd_22 rfl) rfl (wz rfl) (hb hby d42_29) (fun _ _ => ⟨rfl, e303, (by decide : 0 + 0 ≤ _), (by decide : 0 + 0 ≤ _)⟩)
 dsimp only [Pt.U, Pt.locs, Pt.cells, Pt.slots] at X304 l304 y304 z304 st304 hQ304
 rw [l304, y304, z304] at X304
 obtain ⟨rfl, N304q, e304⟩ := hQ304
 have N304 := Fr.app N0 N304q
 obtain ⟨T305, X305, e305, st305⟩ := getF X304 hx hZ hown (host := "") (Or.inl (wd hw 93 rfl)) Via.refl e304 Fbc (g := (mkF m 54 (la19 a1 (18 : Int32) (16 : Int32) (18 : Int32) (2 : Int32) (34 : Int32)) [(.ref a1), (.int 34)])) rfl rfl (hb hby d42_54)
 obtain ⟨fs, hr, hrun, hended, hW, hsame⟩ := X305.leave (v := some (.int 34)) (fun h => by rw [Bd.returns] at h; cases h)
 refine ⟨_, _, pre0 _ ?_, hrun, hended, _, _, rfl, ?_, ⟨_, rfl⟩, hW, hsame.mono (by decide) (by decide)⟩
 ·show GO p e below s₁ (mkF m 0 (la15 a1 (18 : Int32)) []) _
  refine XS.aloadN X0.here hx rfl (hb hby d42_0) rfl rfl ?_
  show GO p e below s₁ (mkF m 1 (la15 a1 (18 : Int32)) [(.ref a1)]) _
  refine st300 _ ?_
  show GO p e below T300 (mkF m 4 (la15 a1 (18 : Int32)) [(.ref d1)]) _
  refine X300.arraylength hx (by rw [e300]; exact Ar301.1) (State.isArrayOf_alike hZ.alike Ar301.2.1) (g := (mkF m 4 (la15 a1 (18 : Int32)) [(.ref d1)])) rfl rfl (hb hby d42_4) _ ?_
  rw [len_of S301 M301]
  show GO p e below T300 (mkF m 5 (la15 a1 (18 : Int32)) [(.int 16)]) _
  refine XS.istoreN X300.here hx rfl (hb hby d42_5) rfl (l' := (la16 a1 (18 : Int32) (16 : Int32))) rfl ?_
  show GO p e below T300 (mkF m 6 (la16 a1 (18 : Int32) (16 : Int32)) []) _
  refine XS.iloadN X300.here hx rfl (hb hby d42_6) rfl ?_
  show GO p e below T300 (mkF m 7 (la16 a1 (18 : Int32) (16 : Int32)) [(.int 18)]) _
  refine XS.aloadN X300.here hx rfl (hb hby d42_7) rfl rfl ?_
  show GO p e below T300 (mkF m 8 (la16 a1 (18 : Int32) (16 : Int32)) [(.ref a1), (.int 18)]) _
  refine st302 _ ?_
  show GO p e below T302 (mkF m 11 (la16 a1 (18 : Int32) (16 : Int32)) [(.int 0), (.int 18)]) _
  refine XS.ishl X302.here hx rfl (hb hby d42_11) rfl ?_
  rw [show ((18 : Int32) <<< ((0 : Int32) &&& 31)) = (18 : Int32) from by decide]
  show GO p e below T302 (mkF m 12 (la16 a1 (18 : Int32) (16 : Int32)) [(.int 18)]) _
  refine XS.istoreN X302.here hx rfl (hb hby d42_12) rfl (l' := (la17 a1 (18 : Int32) (16 : Int32) (18 : Int32))) rfl ?_
  show GO p e below T302 (mkF m 13 (la17 a1 (18 : Int32) (16 : Int32) (18 : Int32)) []) _
  refine XS.iloadN X302.here hx rfl (hb hby d42_13) rfl ?_
  show GO p e below T302 (mkF m 14 (la17 a1 (18 : Int32) (16 : Int32) (18 : Int32)) [(.int 18)]) _
  refine XS.iloadN X302.here hx rfl (hb hby d42_14) rfl ?_
  show GO p e below T302 (mkF m 15 (la17 a1 (18 : Int32) (16 : Int32) (18 : Int32)) [(.int 16), (.int 18)]) _
  refine XS.isub X302.here hx rfl (hb hby d42_15) rfl ?_
  rw [show ((18 : Int32) - (16 : Int32)) = (2 : Int32) from by decide]
  show GO p e below T302 (mkF m 16 (la17 a1 (18 : Int32) (16 : Int32) (18 : Int32)) [(.int 2)]) _
  refine XS.istore X302.here hx rfl (hb hby d42_16) rfl (l' := (la18 a1 (18 : Int32) (16 : Int32) (18 : Int32) (2 : Int32))) rfl ?_
  show GO p e below T302 (mkF m 18 (la18 a1 (18 : Int32) (16 : Int32) (18 : Int32) (2 : Int32)) []) _
  refine XS.iloadN X302.here hx rfl (hb hby d42_18) rfl ?_
  show GO p e below T302 (mkF m 19 (la18 a1 (18 : Int32) (16 : Int32) (18 : Int32) (2 : Int32)) [(.int 16)]) _
  refine XS.iload X302.here hx rfl (hb hby d42_19) rfl ?_
  show GO p e below T302 (mkF m 21 (la18 a1 (18 : Int32) (16 : Int32) (18 : Int32) (2 : Int32)) [(.int 2), (.int 16)]) _
  refine XS.iloadN X302.here hx rfl (hb hby d42_21) rfl ?_
  show GO p e below T302 (mkF m 22 (la18 a1 (18 : Int32) (16 : Int32) (18 : Int32) (2 : Int32)) [(.int 16), (.int 2), (.int 16)]) _
  refine XS.iconst X302.here hx rfl (hb hby d42_22) ?_
  show GO p e below T302 (mkF m 23 (la18 a1 (18 : Int32) (16 : Int32) (18 : Int32) (2 : Int32)) [(.int 2), (.int 16), (.int 2), (.int 16)]) _
  refine XS.aloadN X302.here hx rfl (hb hby d42_23) rfl rfl ?_
  show GO p e below T302 (mkF m 24 (la18 a1 (18 : Int32) (16 : Int32) (18 : Int32) (2 : Int32)) [(.ref a1), (.int 2), (.int 16), (.int 2), (.int 16)]) _
  refine st303 _ ?_
  show GO p e below T303 (mkF m 27 (la18 a1 (18 : Int32) (16 : Int32) (18 : Int32) (2 : Int32)) [(.int 0), (.int 2), (.int 16), (.int 2), (.int 16)]) _
  refine XS.ishl X303.here hx rfl (hb hby d42_27) rfl ?_
  rw [show ((2 : Int32) <<< ((0 : Int32) &&& 31)) = (2 : Int32) from by decide]
  show GO p e below T303 (mkF m 28 (la18 a1 (18 : Int32) (16 : Int32) (18 : Int32) (2 : Int32)) [(.int 2), (.int 16), (.int 2), (.int 16)]) _
  refine XS.iadd X303.here hx rfl (hb hby d42_28) rfl ?_
  rw [show ((16 : Int32) + (2 : Int32)) = (18 : Int32) from by decide]
  show GO p e below T303 (mkF m 29 (la18 a1 (18 : Int32) (16 : Int32) (18 : Int32) (2 : Int32)) [(.int 18), (.int 2), (.int 16)]) _
  refine st304 _ ?_
  show GO p e below T304 (mkF m 32 (la18 a1 (18 : Int32) (16 : Int32) (18 : Int32) (2 : Int32)) [(.int 34)]) _
  refine XS.istore X304.here hx rfl (hb hby d42_32) rfl (l' := (la19 a1 (18 : Int32) (16 : Int32) (18 : Int32) (2 : Int32) (34 : Int32))) rfl ?_
  show GO p e below T304 (mkF m 34 (la19 a1 (18 : Int32) (16 : Int32) (18 : Int32) (2 : Int32) (34 : Int32)) []) _
  refine XS.iload X304.here hx rfl (hb hby d42_34) rfl ?_
  show GO p e below T304 (mkF m 36 (la19 a1 (18 : Int32) (16 : Int32) (18 : Int32) (2 : Int32) (34 : Int32)) [(.int 34)]) _
  refine X304.ldcInt hx hown (mvT hZ (wd hw 227 rfl)) (g := (mkF m 36 (la19 a1 (18 : Int32) (16 : Int32) (18 : Int32) (2 : Int32) (34 : Int32)) [(.int 34)])) rfl (hb hby d42_36) _ ?_
  show GO p e below T304 (mkF m 38 (la19 a1 (18 : Int32) (16 : Int32) (18 : Int32) (2 : Int32) (34 : Int32)) [(.int 2147483647), (.int 34)]) _
  refine XS.icmpYes X304.here hx rfl (pc0 := 38) (pc' := 51) rfl (hb hby d42_38) rfl (feq ((by decide) : ¬ ((34 : Int32) = (2147483647 : Int32)))).2 (by decide) (by decide) ?_
  show GO p e below T304 (mkF m 51 (la19 a1 (18 : Int32) (16 : Int32) (18 : Int32) (2 : Int32) (34 : Int32)) []) _
  refine XS.iload X304.here hx rfl (hb hby d42_51) rfl ?_
  show GO p e below T304 (mkF m 53 (la19 a1 (18 : Int32) (16 : Int32) (18 : Int32) (2 : Int32) (34 : Int32)) [(.int 34)]) _
  refine XS.aloadN X304.here hx rfl (hb hby d42_53) rfl rfl ?_
  show GO p e below T304 (mkF m 54 (la19 a1 (18 : Int32) (16 : Int32) (18 : Int32) (2 : Int32) (34 : Int32)) [(.ref a1), (.int 34)]) _
  refine st305 _ ?_
  show GO p e below T305 (mkF m 57 (la19 a1 (18 : Int32) (16 : Int32) (18 : Int32) (2 : Int32) (34 : Int32)) [(.int 0), (.int 34)]) _
  refine XS.ishr X305.here hx rfl (hb hby d42_57) rfl ?_
  rw [show ((34 : Int32) >>> ((0 : Int32) &&& 31)) = (34 : Int32) from by decide]
  show GO p e below T305 (mkF m 58 (la19 a1 (18 : Int32) (16 : Int32) (18 : Int32) (2 : Int32) (34 : Int32)) [(.int 34)]) _
  exact retI X305 hx Bd.returns (hb hby d42_58) hr
 ·show Qrm_nc_16_18 Z a1 d1 kd xe0 xe1 xe2 xe3 xe4 xe5 xe6 xe7 xe8 xe9 xe10 xe11 xe12 xe13 h0 n0 _ T305.heap _
  rw [e305]
  exact ⟨rfl, N304, rfl⟩
def Qrm_mi_16_34 (Z : State)  (h0 : Heap) (n0 : Nat) (v : Option Value) (h : Heap) (L : List Loc) : Prop := v = some (.int 16) ∧ Fr n0 L ∧ h = h0
theorem ef_rm_mi_16_34 (m : MethodId) (x0 : Int32) (x1 : Int32) : entryFrame m #[(.int x0), (.int x1)] 2 = mkF m 0 #[.val (.int x0), .val (.int x1)] [] := by first | rfl | (simp [entryFrame, mkF, argsToLocals, Value.category]; done)
theorem rm_mi_16_34 (l : Launch) (Z : State) (a0 : Array Value) (hw : HW Z a0) (ws : List Jvm.Cond)  (h0 : Heap) (n0 : Nat) (Z0 : n0 ≤ h0.size) :
  OwnM l Z h0 (⟨"java/lang/Math", "min", "(II)I"⟩ : MethodName) (Jvm.Cond.code (⟨"java/lang/Math", "min", "(II)I"⟩ : MethodName) jdk_29_method_69_code 2 (some .int) :: ws) (RM 0 0 0 0) #[(.int 16), (.int 34)] (Qrm_mi_16_34 Z  h0 n0) := by
 refine MetFree.of_bodySF (Jvm.Free.JP.mathPlain rfl (by decide +kernel)) hisR ?_
 intro p e s m args below meth c s₁ Bd hml0 hP hK
 obtain ⟨rfl, hZ, hh⟩ := hP
 have hx := Bd.exec
 have hby := Bd.bytes
 have hml : c.maxLocals = 2 := hml0
 have hown : s.vm.findClass "java/lang/Math" = some m.cls := findClass_of_methodNamed Bd.named
 have hnm := (name_of_methodNamed Bd.named Bd.method).1
 have X0 : Stand p l e (RM 0 0 0 0) s m #[(.int 16), (.int 34)] below meth c s₁ [] 0 0 := Stand.of_body Bd
 have e0 : s₁.heap = h0 := by rw [← hh, Bd.state]; rfl
 have N0 := Fr.nil n0
 have pre0 : ∀ t, GO p e below s₁ (mkF m 0 #[.val (.int 16), .val (.int 34)] []) t → GO p e below s₁ (entryFrame m #[(.int 16), (.int 34)] 2) t := fun t k => castTop (ef_rm_mi_16_34 m ((16 : Int32)) ((34 : Int32))) k
 obtain ⟨fs, hr, hrun, hended, hW, hsame⟩ := X0.leave (v := some (.int 16)) (fun h => by rw [Bd.returns] at h; cases h)
 refine ⟨_, _, pre0 _ ?_, hrun, hended, _, _, rfl, ?_, ⟨_, rfl⟩, hW, hsame.mono (by decide) (by decide)⟩
 ·show GO p e below s₁ (mkF m 0 #[.val (.int 16), .val (.int 34)] []) _
  refine XS.iloadN X0.here hx rfl (hb hby d36_0) rfl ?_
  show GO p e below s₁ (mkF m 1 #[.val (.int 16), .val (.int 34)] [(.int 16)]) _
  refine XS.iloadN X0.here hx rfl (hb hby d36_1) rfl ?_
  show GO p e below s₁ (mkF m 2 #[.val (.int 16), .val (.int 34)] [(.int 34), (.int 16)]) _
  refine XS.icmpNo X0.here hx rfl (hb hby d36_2) rfl (flt ((by decide) : ¬ ((34 : Int32) < (16 : Int32)))).2.2.1 ?_
  show GO p e below s₁ (mkF m 5 #[.val (.int 16), .val (.int 34)] []) _
  refine XS.iloadN X0.here hx rfl (hb hby d36_5) rfl ?_
  show GO p e below s₁ (mkF m 6 #[.val (.int 16), .val (.int 34)] [(.int 16)]) _
  refine XS.goto X0.here hx rfl (pc0 := 6) (pc' := 10) rfl (hb hby d36_6) (by decide) (by decide) ?_
  show GO p e below s₁ (mkF m 10 #[.val (.int 16), .val (.int 34)] [(.int 16)]) _
  exact retI X0 hx Bd.returns (hb hby d36_10) hr
 ·show Qrm_mi_16_34 Z  h0 n0 _ s₁.heap _
  rw [e0]
  exact ⟨rfl, N0, rfl⟩
def Qrm_co_16_34 (Z : State) (d1 : Addr) (kd : ClassId) (xe0 : Int32) (xe1 : Int32) (xe2 : Int32) (xe3 : Int32) (xe4 : Int32) (xe5 : Int32) (xe6 : Int32) (xe7 : Int32) (xe8 : Int32) (xe9 : Int32) (xe10 : Int32) (xe11 : Int32) (xe12 : Int32) (xe13 : Int32) (h0 : Heap) (n0 : Nat) (v : Option Value) (h : Heap) (L : List Loc) : Prop := ∃ t : Addr, ∃ k : ClassId, v = some (.ref t) ∧ Fr n0 L ∧ Keep h0 h [] ∧ Arv Z h t k .byte (34 : Int32) [(.int xe0), (.int xe1), (.int xe2), (.int xe3), (.int xe4), (.int xe5), (.int xe6), (.int xe7), (.int xe8), (.int xe9), (.int xe10), (.int xe11), (.int xe12), (.int xe13), (.int 0), (.int 0), (.int 0), (.int 0), (.int 0), (.int 0), (.int 0), (.int 0), (.int 0), (.int 0), (.int 0), (.int 0), (.int 0), (.int 0), (.int 0), (.int 0), (.int 0), (.int 0), (.int 0), (.int 0)] (.int 0) ∧ h0.size ≤ t
theorem ef_rm_co_16_34 (m : MethodId) (x0 : Addr) (x1 : Int32) : entryFrame m #[(.ref x0), (.int x1)] 3 = mkF m 0 (la2 x0 x1) [] := by first | rfl | (simp [entryFrame, mkF, argsToLocals, Value.category]; done)
theorem rm_co_16_34 (l : Launch) (Z : State) (a0 : Array Value) (hw : HW Z a0) (ws : List Jvm.Cond) (d1 : Addr) (kd : ClassId) (xe0 : Int32) (xe1 : Int32) (xe2 : Int32) (xe3 : Int32) (xe4 : Int32) (xe5 : Int32) (xe6 : Int32) (xe7 : Int32) (xe8 : Int32) (xe9 : Int32) (xe10 : Int32) (xe11 : Int32) (xe12 : Int32) (xe13 : Int32) (h0 : Heap) (n0 : Nat) (Z0 : n0 ≤ h0.size) (Vd : Arv Z h0 d1 kd .byte (16 : Int32) [(.int xe0), (.int xe1), (.int xe2), (.int xe3), (.int xe4), (.int xe5), (.int xe6), (.int xe7), (.int xe8), (.int xe9), (.int xe10), (.int xe11), (.int xe12), (.int xe13), (.int 0), (.int 0)] (.int 0)) :
  OwnM l Z h0 (⟨"java/util/Arrays", "copyOf", "([BI)[B"⟩ : MethodName) (Jvm.Cond.code (⟨"java/util/Arrays", "copyOf", "([BI)[B"⟩ : MethodName) jdk_65_method_121_code 3 (some (.array .byte)) :: ws) (RM 1 1 34 18) #[(.ref d1), (.int 34)] (Qrm_co_16_34 Z d1 kd xe0 xe1 xe2 xe3 xe4 xe5 xe6 xe7 xe8 xe9 xe10 xe11 xe12 xe13 h0 n0) := by
 refine MetFree.of_bodySF (plainFor_of_name pn_8) hisR ?_
 intro p e s m args below meth c s₁ Bd hml0 hP hK
 obtain ⟨rfl, hZ, hh⟩ := hP
 have hx := Bd.exec
 have hby := Bd.bytes
 have hml : c.maxLocals = 3 := hml0
 have hown : s.vm.findClass "java/util/Arrays" = some m.cls := findClass_of_methodNamed Bd.named
 have hnm := (name_of_methodNamed Bd.named Bd.method).1
 have X0 : Stand p l e (RM 1 1 34 18) s m #[(.ref d1), (.int 34)] below meth c s₁ [] 0 0 := Stand.of_body Bd
 have e0 : s₁.heap = h0 := by rw [← hh, Bd.state]; rfl
 have N0 := Fr.nil n0
 have pre0 : ∀ t, GO p e below s₁ (mkF m 0 (la2 d1 (34 : Int32)) []) t → GO p e below s₁ (entryFrame m #[(.ref d1), (.int 34)] 3) t := fun t k => castTop (ef_rm_co_16_34 m d1 ((34 : Int32))) k
 have lt_Vd := ltA Vd.lt
 obtain ⟨cl306, Ar306, -, S306, M306, -, -⟩ := id Vd
 obtain ⟨T307, h307, k307, X307, e307, E307, A307, st307⟩ := newP X0 hx hZ (wd hw 19 rfl) e0 (g := (mkF m 15 (la2 d1 (34 : Int32)) [(.int 34)])) rfl (hb hby d45_15) rfl (by decide) (cap := 34) (by decide) (by decide) (by decide) (by decide)
 obtain ⟨b307, g307⟩ : ∃ z, z = h0.size := ⟨_, rfl⟩
 rw [← g307] at A307 st307
 have sz307 : h0.size ≤ h307.size := E307.1
 have nz307 := Nat.le_trans Z0 sz307
 have lt307 := ltA A307.lt
 have V307 : Arv Z h307 b307 k307 .byte (34 : Int32) [(.int 0), (.int 0), (.int 0), (.int 0), (.int 0), (.int 0), (.int 0), (.int 0), (.int 0), (.int 0), (.int 0), (.int 0), (.int 0), (.int 0), (.int 0), (.int 0), (.int 0), (.int 0), (.int 0), (.int 0), (.int 0), (.int 0), (.int 0), (.int 0), (.int 0), (.int 0), (.int 0), (.int 0), (.int 0), (.int 0), (.int 0), (.int 0), (.int 0), (.int 0)] (.int 0) := (Arv.new A307 (by decide)).pad (pad_rep [] (.int 0) 34)
 have f308 : Arv Z h307 d1 kd .byte (16 : Int32) [(.int xe0), (.int xe1), (.int xe2), (.int xe3), (.int xe4), (.int xe5), (.int xe6), (.int xe7), (.int xe8), (.int xe9), (.int xe10), (.int xe11), (.int xe12), (.int xe13), (.int 0), (.int 0)] (.int 0) := (Vd.ext E307)
 obtain ⟨cl309, Ar309, -, S309, M309, -, -⟩ := id f308
 -- pc 25: Math.min by rm_mi_16_34
 obtain ⟨_, _, ⟨T310, L310, k310, n310⟩, -, X310, ⟨Lc310, hQ310, l310, y310, z310⟩, st310⟩ := Jvm.LawKit.callS X307 hx (y := (⟨"java/lang/Math", "min", "(II)I"⟩ : MethodName)) hown (mvT hZ (wd hw 185 rfl)) (mvT hZ (wd hw 186 rfl)) (mvT hZ (wd hw 187 rfl)) (mvT hZ (wd hw 188 rfl)) (by decide) (backOf (W := 4) (rm_mi_16_34 l Z a0 hw []  h307 n0 nz307) hZ (wd hw 188 rfl) (wd hw 187 rfl) (by decide) (by decide)) (g := (mkF m 25 (la5 d1 (34 : Int32) b307) [(.int 34), (.int 16), (.int 0), (.ref b307), (.int 0), (.ref d1)])) rfl (by rw [hml]; rfl) (argsL := [(.int 16), (.int 34)]) (rest := [(.int 0), (.ref b307), (.int 0), (.ref d1)]) (lenOf pd_14 rfl) rfl (wz rfl) (hb hby d45_25) (fun _ _ => ⟨rfl, e307, (by decide : 1 + 0 ≤ _), (by decide : 34 + 0 ≤ _)⟩)
 dsimp only [Pt.U, Pt.locs, Pt.cells, Pt.slots] at X310 l310 y310 z310 st310 hQ310
 rw [l310, y310, z310] at X310
 obtain ⟨rfl, N310q, e310⟩ := hQ310
 have N310 := Fr.app N0 N310q
 obtain ⟨T311, h311, L311, X311, e311, N311, K311, A311, st311⟩ := cpA X310 hx hZ hown (wd hw 189 rfl) (wd hw 141 rfl) (wd hw 139 rfl) (wd hw 140 rfl) e310 f308 V307 (us := [(.int xe0), (.int xe1), (.int xe2), (.int xe3), (.int xe4), (.int xe5), (.int xe6), (.int xe7), (.int xe8), (.int xe9), (.int xe10), (.int xe11), (.int xe12), (.int xe13), (.int 0), (.int 0)]) (Or.inl ⟨rfl, rfl⟩) (by decide) (by decide) (by decide) (by decide) (by decide) rfl (Nat.le_of_ble_eq_true rfl) N310 (by omega) (g := (mkF m 28 (la5 d1 (34 : Int32) b307) [(.int 16), (.int 0), (.ref b307), (.int 0), (.ref d1)])) rfl (by rw [hml]; rfl) rfl (hb hby d45_28) (by decide) (W := 0) (wz rfl) (by decide)
 have sz311 : h307.size ≤ h311.size := K311.1
 have nz311 := Nat.le_trans nz307 sz311
 have V311 : Arv Z h311 b307 k307 .byte (34 : Int32) [(.int xe0), (.int xe1), (.int xe2), (.int xe3), (.int xe4), (.int xe5), (.int xe6), (.int xe7), (.int xe8), (.int xe9), (.int xe10), (.int xe11), (.int xe12), (.int xe13), (.int 0), (.int 0), (.int 0), (.int 0), (.int 0), (.int 0), (.int 0), (.int 0), (.int 0), (.int 0), (.int 0), (.int 0), (.int 0), (.int 0), (.int 0), (.int 0), (.int 0), (.int 0), (.int 0), (.int 0)] (.int 0) := A311
 obtain ⟨fs, hr, hrun, hended, hW, hsame⟩ := X311.leave (v := some (.ref b307)) (fun h => by rw [Bd.returns] at h; cases h)
 refine ⟨_, _, pre0 _ ?_, hrun, hended, _, _, rfl, ?_, ⟨_, rfl⟩, hW, hsame.mono (by decide) (by decide)⟩
 ·show GO p e below s₁ (mkF m 0 (la2 d1 (34 : Int32)) []) _
  refine XS.iloadN X0.here hx rfl (hb hby d45_0) rfl ?_
  show GO p e below s₁ (mkF m 1 (la2 d1 (34 : Int32)) [(.int 34)]) _
  refine XS.aloadN X0.here hx rfl (hb hby d45_1) rfl rfl ?_
  show GO p e below s₁ (mkF m 2 (la2 d1 (34 : Int32)) [(.ref d1), (.int 34)]) _
  refine X0.arraylength hx (by rw [e0]; exact Ar306.1) (State.isArrayOf_alike hZ.alike Ar306.2.1) (g := (mkF m 2 (la2 d1 (34 : Int32)) [(.ref d1), (.int 34)])) rfl rfl (hb hby d45_2) _ ?_
  rw [len_of S306 M306]
  show GO p e below s₁ (mkF m 3 (la2 d1 (34 : Int32)) [(.int 16), (.int 34)]) _
  refine XS.icmpYes X0.here hx rfl (pc0 := 3) (pc' := 14) rfl (hb hby d45_3) rfl (feq ((by decide) : ¬ ((34 : Int32) = (16 : Int32)))).2 (by decide) (by decide) ?_
  show GO p e below s₁ (mkF m 14 (la2 d1 (34 : Int32)) []) _
  refine XS.iloadN X0.here hx rfl (hb hby d45_14) rfl ?_
  show GO p e below s₁ (mkF m 15 (la2 d1 (34 : Int32)) [(.int 34)]) _
  refine st307 _ ?_
  show GO p e below T307 (mkF m 17 (la2 d1 (34 : Int32)) [(.ref b307)]) _
  refine XS.astoreN X307.here hx rfl (hb hby d45_17) rfl rfl (l' := (la5 d1 (34 : Int32) b307)) rfl ?_
  show GO p e below T307 (mkF m 18 (la5 d1 (34 : Int32) b307) []) _
  refine XS.aloadN X307.here hx rfl (hb hby d45_18) rfl rfl ?_
  show GO p e below T307 (mkF m 19 (la5 d1 (34 : Int32) b307) [(.ref d1)]) _
  refine XS.iconst X307.here hx rfl (hb hby d45_19) ?_
  show GO p e below T307 (mkF m 20 (la5 d1 (34 : Int32) b307) [(.int 0), (.ref d1)]) _
  refine XS.aloadN X307.here hx rfl (hb hby d45_20) rfl rfl ?_
  show GO p e below T307 (mkF m 21 (la5 d1 (34 : Int32) b307) [(.ref b307), (.int 0), (.ref d1)]) _
  refine XS.iconst X307.here hx rfl (hb hby d45_21) ?_
  show GO p e below T307 (mkF m 22 (la5 d1 (34 : Int32) b307) [(.int 0), (.ref b307), (.int 0), (.ref d1)]) _
  refine XS.aloadN X307.here hx rfl (hb hby d45_22) rfl rfl ?_
  show GO p e below T307 (mkF m 23 (la5 d1 (34 : Int32) b307) [(.ref d1), (.int 0), (.ref b307), (.int 0), (.ref d1)]) _
  refine X307.arraylength hx (by rw [e307]; exact Ar309.1) (State.isArrayOf_alike hZ.alike Ar309.2.1) (g := (mkF m 23 (la5 d1 (34 : Int32) b307) [(.ref d1), (.int 0), (.ref b307), (.int 0), (.ref d1)])) rfl rfl (hb hby d45_23) _ ?_
  rw [len_of S309 M309]
  show GO p e below T307 (mkF m 24 (la5 d1 (34 : Int32) b307) [(.int 16), (.int 0), (.ref b307), (.int 0), (.ref d1)]) _
  refine XS.iloadN X307.here hx rfl (hb hby d45_24) rfl ?_
  show GO p e below T307 (mkF m 25 (la5 d1 (34 : Int32) b307) [(.int 34), (.int 16), (.int 0), (.ref b307), (.int 0), (.ref d1)]) _
  refine st310 _ ?_
  show GO p e below T310 (mkF m 28 (la5 d1 (34 : Int32) b307) [(.int 16), (.int 0), (.ref b307), (.int 0), (.ref d1)]) _
  refine st311 _ ?_
  show GO p e below T311 (mkF m 31 (la5 d1 (34 : Int32) b307) []) _
  refine XS.aloadN X311.here hx rfl (hb hby d45_31) rfl rfl ?_
  show GO p e below T311 (mkF m 32 (la5 d1 (34 : Int32) b307) [(.ref b307)]) _
  exact retOut X311 hx Bd.returns rfl (Or.inr (Or.inr (Or.inr (Or.inr ⟨rfl, rfl, rfl⟩)))) (hb hby d45_32) hr
 ·show Qrm_co_16_34 Z d1 kd xe0 xe1 xe2 xe3 xe4 xe5 xe6 xe7 xe8 xe9 xe10 xe11 xe12 xe13 h0 n0 _ T311.heap _
  rw [e311]
  exact ⟨b307, k307, rfl, N311, (((Keep.refl h0 []).ext E307).trans K311 (allS (P := fun x => x ∈ _ ∨ _) (Or.inr (by omega)) all0)), V311, (by omega)⟩
def Qrm_eg_18_14_16 (Z : State) (a1 : Addr) (d1 : Addr) (kd : ClassId) (xe0 : Int32) (xe1 : Int32) (xe2 : Int32) (xe3 : Int32) (xe4 : Int32) (xe5 : Int32) (xe6 : Int32) (xe7 : Int32) (xe8 : Int32) (xe9 : Int32) (xe10 : Int32) (xe11 : Int32) (xe12 : Int32) (xe13 : Int32) (z0 : Int32) (h0 : Heap) (n0 : Nat) (v : Option Value) (h : Heap) (L : List Loc) : Prop := ∃ t : Addr, ∃ k : ClassId, v = none ∧ Fr n0 L ∧ Keep h0 h [a1] ∧ Exa Z h a1 kS2 ∧ Fld Z h a1 kS0 "value" "[B" (.ref t) ∧ Fld Z h a1 kS0 "coder" "B" (.int 0) ∧ Fld Z h a1 kS0 "count" "I" (.int 14) ∧ Arv Z h t k .byte (34 : Int32) [(.int xe0), (.int xe1), (.int xe2), (.int xe3), (.int xe4), (.int xe5), (.int xe6), (.int xe7), (.int xe8), (.int xe9), (.int xe10), (.int xe11), (.int xe12), (.int xe13), (.int 0), (.int 0), (.int 0), (.int 0), (.int 0), (.int 0), (.int 0), (.int 0), (.int 0), (.int 0), (.int 0), (.int 0), (.int 0), (.int 0), (.int 0), (.int 0), (.int 0), (.int 0), (.int 0), (.int 0)] (.int 0) ∧ h0.size ≤ t
theorem ef_rm_eg_18_14_16 (m : MethodId) (x0 : Addr) (x1 : Int32) : entryFrame m #[(.ref x0), (.int x1)] 3 = mkF m 0 (la2 x0 x1) [] := by first | rfl | (simp [entryFrame, mkF, argsToLocals, Value.category]; done)
theorem rm_eg_18_14_16 (l : Launch) (Z : State) (a0 : Array Value) (hw : HW Z a0) (ws : List Jvm.Cond) (a1 : Addr) (d1 : Addr) (kd : ClassId) (xe0 : Int32) (xe1 : Int32) (xe2 : Int32) (xe3 : Int32) (xe4 : Int32) (xe5 : Int32) (xe6 : Int32) (xe7 : Int32) (xe8 : Int32) (xe9 : Int32) (xe10 : Int32) (xe11 : Int32) (xe12 : Int32) (xe13 : Int32) (z0 : Int32) (h0 : Heap) (n0 : Nat) (Z0 : n0 ≤ h0.size) (Eb : Exa Z h0 a1 kS2) (Fbv : Fld Z h0 a1 kS0 "value" "[B" (.ref d1)) (Fbc : Fld Z h0 a1 kS0 "coder" "B" (.int 0)) (Fbn : Fld Z h0 a1 kS0 "count" "I" (.int 14)) (Vb : Arv Z h0 d1 kd .byte (16 : Int32) [(.int xe0), (.int xe1), (.int xe2), (.int xe3), (.int xe4), (.int xe5), (.int xe6), (.int xe7), (.int xe8), (.int xe9), (.int xe10), (.int xe11), (.int xe12), (.int xe13), (.int 0), (.int 0)] (.int 0)) (ga : n0 ≤ a1) :
  OwnM l Z h0 (⟨kS0, "ensureCapacityInternal", "(I)V"⟩ : MethodName) (Jvm.Cond.code (⟨kS0, "ensureCapacityInternal", "(I)V"⟩ : MethodName) jdk_68_method_9_code 3 none :: ws) (RM 3 1 34 48) #[(.ref a1), (.int 18)] (Qrm_eg_18_14_16 Z a1 d1 kd xe0 xe1 xe2 xe3 xe4 xe5 xe6 xe7 xe8 xe9 xe10 xe11 xe12 xe13 z0 h0 n0) := by
 refine MetFree.of_bodySF (plainFor_of_name pn_6) hisR ?_
 intro p e s m args below meth c s₁ Bd hml0 hP hK
 obtain ⟨rfl, hZ, hh⟩ := hP
 have hx := Bd.exec
 have hby := Bd.bytes
 have hml : c.maxLocals = 3 := hml0
 have hown : s.vm.findClass kS0 = some m.cls := findClass_of_methodNamed Bd.named
 have hnm := (name_of_methodNamed Bd.named Bd.method).1
 have X0 : Stand p l e (RM 3 1 34 48) s m #[(.ref a1), (.int 18)] below meth c s₁ [] 0 0 := Stand.of_body Bd
 have e0 : s₁.heap = h0 := by rw [← hh, Bd.state]; rfl
 have N0 := Fr.nil n0
 have pre0 : ∀ t, GO p e below s₁ (mkF m 0 (la2 a1 (18 : Int32)) []) t → GO p e below s₁ (entryFrame m #[(.ref a1), (.int 18)] 3) t := fun t k => castTop (ef_rm_eg_18_14_16 m a1 ((18 : Int32))) k
 have lt_Eb := ltA Eb.lt
 have lt_Fbv := ltA Fbv.lt
 have lt_Fbc := ltA Fbc.lt
 have lt_Fbn := ltA Fbn.lt
 have lt_Vb := ltA Vb.lt
 obtain ⟨T312, X312, e312, st312⟩ := getF X0 hx hZ hown (host := "") (Or.inl (wd hw 91 rfl)) Via.refl e0 Fbv (g := (mkF m 1 (la2 a1 (18 : Int32)) [(.ref a1)])) rfl rfl (hb hby d22_1)
 obtain ⟨cl313, Ar313, -, S313, M313, -, -⟩ := id Vb
 obtain ⟨T314, X314, e314, st314⟩ := getF X312 hx hZ hown (host := "") (Or.inl (wd hw 93 rfl)) Via.refl e312 Fbc (g := (mkF m 6 (la2 a1 (18 : Int32)) [(.ref a1), (.int 16)])) rfl rfl (hb hby d22_6)
 obtain ⟨T315, X315, e315, st315⟩ := getF X314 hx hZ hown (host := "") (Or.inl (wd hw 91 rfl)) Via.refl e314 Fbv (g := (mkF m 19 (la3 a1 (18 : Int32) (16 : Int32)) [(.ref a1), (.ref a1)])) rfl rfl (hb hby d22_19)
 -- pc 24: AbstractStringBuilder.newCapacity by rm_nc_16_18
 obtain ⟨cq316, q316a, q316b⟩ := Eb.cell
 obtain ⟨_, _, ⟨T316, L316, k316, n316⟩, -, X316, ⟨Lc316, hQ316, l316, y316, z316⟩, st316⟩ := X315.privateBack hx (y := (⟨kS0, "newCapacity", "(I)I"⟩ : MethodName)) hown (mvT hZ (wd hw 214 rfl)) (mvT hZ (wd hw 215 rfl)) (mvT hZ (own_selfsel (wd hw 217 rfl) (wd hw 216 rfl) (wd hw 215 rfl) (by decide))) (Cond.privateMethod_at (mvP hZ (wd hw 216 rfl) (args := #[]))) (mvT hZ (wd hw 218 rfl)) (by decide) (backOf (W := 2) (rm_nc_16_18 l Z a0 hw [] a1 d1 kd xe0 xe1 xe2 xe3 xe4 xe5 xe6 xe7 xe8 xe9 xe10 xe11 xe12 xe13 h0 n0 Z0 Fbv Fbc Vb) hZ (wd hw 218 rfl) (wd hw 87 rfl) (by decide) (by decide)) (g := (mkF m 24 (la3 a1 (18 : Int32) (16 : Int32)) [(.int 18), (.ref a1), (.ref d1), (.ref a1)])) rfl (by rw [hml]; rfl) (Steps.refl _) (a := a1) (by rw [e315]; exact q316a) q316b (argsL := [(.int 18)]) (rest := [(.ref d1), (.ref a1)]) (lenOf pd_23 rfl) rfl (wz rfl) (hb hby d22_24) (fun _ _ => ⟨rfl, e315, (by decide : 0 + 0 ≤ _), (by decide : 0 + 0 ≤ _)⟩)
 dsimp only [Pt.U, Pt.locs, Pt.cells, Pt.slots] at X316 l316 y316 z316 st316 hQ316
 rw [l316, y316, z316] at X316
 obtain ⟨rfl, N316q, e316⟩ := hQ316
 have N316 := Fr.app N0 N316q
 obtain ⟨T317, X317, e317, st317⟩ := getF X316 hx hZ hown (host := "") (Or.inl (wd hw 93 rfl)) Via.refl e316 Fbc (g := (mkF m 28 (la3 a1 (18 : Int32) (16 : Int32)) [(.ref a1), (.int 34), (.ref d1), (.ref a1)])) rfl rfl (hb hby d22_28)
 -- pc 32: Arrays.copyOf by rm_co_16_34
 obtain ⟨_, _, ⟨T318, L318, k318, n318⟩, -, X318, ⟨Lc318, hQ318, l318, y318, z318⟩, st318⟩ := Jvm.LawKit.callS X317 hx (y := (⟨"java/util/Arrays", "copyOf", "([BI)[B"⟩ : MethodName)) hown (mvT hZ (wd hw 228 rfl)) (mvT hZ (wd hw 229 rfl)) (mvT hZ (wd hw 177 rfl)) (mvT hZ (wd hw 230 rfl)) (by decide) (backOf (W := 1) (rm_co_16_34 l Z a0 hw [] d1 kd xe0 xe1 xe2 xe3 xe4 xe5 xe6 xe7 xe8 xe9 xe10 xe11 xe12 xe13 h0 n0 Z0 Vb) hZ (wd hw 230 rfl) (wd hw 177 rfl) (by decide) (by decide)) (g := (mkF m 32 (la3 a1 (18 : Int32) (16 : Int32)) [(.int 34), (.ref d1), (.ref a1)])) rfl (by rw [hml]; rfl) (argsL := [(.ref d1), (.int 34)]) (rest := [(.ref a1)]) (lenOf pd_24 rfl) rfl (wz rfl) (hb hby d22_32) (fun _ _ => ⟨rfl, e317, (by decide : 0 + 1 ≤ _), (by decide : 0 + 34 ≤ _)⟩)
 dsimp only [Pt.U, Pt.locs, Pt.cells, Pt.slots] at X318 l318 y318 z318 st318 hQ318
 rw [l318, y318, z318] at X318
 obtain ⟨h318, e318⟩ : ∃ z, T318.heap = z := ⟨_, rfl⟩
 rw [e318] at hQ318
 obtain ⟨t_318, k_318, rfl, N318q, K318, p318_0, r318_0⟩ := hQ318
 have N318 := Fr.app N316 N318q
 have sz318 : h0.size ≤ h318.size := K318.1
 have nz318 := Nat.le_trans Z0 sz318
 have lt318_0 := ltA p318_0.lt
 have f319 : Fld Z h318 a1 kS0 "value" "[B" (.ref d1) := (Fbv.keep K318 nin0)
 have f320 : Exa Z h318 a1 kS2 := (Eb.keep K318)
 obtain ⟨T321, h321, X321, e321, W321, st321⟩ := putF X318 hx hZ hown (host := "") (Or.inl (wd hw 91 rfl)) Via.refl e318 f319 f320 (Or.inl (wd hw 92 rfl)) (wd hw 78 rfl) (ty := (.array .byte)) (by decide) rfl rfl (g := (mkF m 35 (la3 a1 (18 : Int32) (16 : Int32)) [(.ref t_318), (.ref a1)])) rfl rfl (hb hby d22_35)
 have ge322 : n0 ≤ a1 := by omega
 have N321 := Fr.snoc X321 N318 ge322
 have sz321 : h318.size ≤ h321.size := Nat.le_of_eq W321.size.symm
 have nz321 := Nat.le_trans nz318 sz321
 have f321 : Fld Z h321 a1 kS0 "value" "[B" (.ref t_318) := f319.same W321
 have f323 : Exa Z h321 a1 kS2 := (f320.wr W321)
 have f324 : Fld Z h321 a1 kS0 "coder" "B" (.int 0) := ((Fbc.keep K318 nin0).other W321 (Or.inr (slot_ne (Or.inl (wd hw 94 rfl)) (Or.inl (wd hw 92 rfl)) (by decide) (t := .byte) (t' := (.array .byte)) (by decide) (by decide))))
 have f325 : Fld Z h321 a1 kS0 "count" "I" (.int 14) := ((Fbn.keep K318 nin0).other W321 (Or.inr (slot_ne (Or.inl (wd hw 116 rfl)) (Or.inl (wd hw 92 rfl)) (by decide) (t := .int) (t' := (.array .byte)) (by decide) (by decide))))
 have ne326 : t_318 ≠ a1 := neN (by omega)
 have f327 : Arv Z h321 t_318 k_318 .byte (34 : Int32) [(.int xe0), (.int xe1), (.int xe2), (.int xe3), (.int xe4), (.int xe5), (.int xe6), (.int xe7), (.int xe8), (.int xe9), (.int xe10), (.int xe11), (.int xe12), (.int xe13), (.int 0), (.int 0), (.int 0), (.int 0), (.int 0), (.int 0), (.int 0), (.int 0), (.int 0), (.int 0), (.int 0), (.int 0), (.int 0), (.int 0), (.int 0), (.int 0), (.int 0), (.int 0), (.int 0), (.int 0)] (.int 0) := (p318_0.other W321 ne326)
 obtain ⟨fs, hr, hrun, hended, hW, hsame⟩ := X321.leave (v := none) (fun _ => rfl)
 refine ⟨_, _, pre0 _ ?_, hrun, hended, _, _, rfl, ?_, ⟨_, rfl⟩, hW, hsame.mono (by decide) (by decide)⟩
 ·show GO p e below s₁ (mkF m 0 (la2 a1 (18 : Int32)) []) _
  refine XS.aloadN X0.here hx rfl (hb hby d22_0) rfl rfl ?_
  show GO p e below s₁ (mkF m 1 (la2 a1 (18 : Int32)) [(.ref a1)]) _
  refine st312 _ ?_
  show GO p e below T312 (mkF m 4 (la2 a1 (18 : Int32)) [(.ref d1)]) _
  refine X312.arraylength hx (by rw [e312]; exact Ar313.1) (State.isArrayOf_alike hZ.alike Ar313.2.1) (g := (mkF m 4 (la2 a1 (18 : Int32)) [(.ref d1)])) rfl rfl (hb hby d22_4) _ ?_
  rw [len_of S313 M313]
  show GO p e below T312 (mkF m 5 (la2 a1 (18 : Int32)) [(.int 16)]) _
  refine XS.aloadN X312.here hx rfl (hb hby d22_5) rfl rfl ?_
  show GO p e below T312 (mkF m 6 (la2 a1 (18 : Int32)) [(.ref a1), (.int 16)]) _
  refine st314 _ ?_
  show GO p e below T314 (mkF m 9 (la2 a1 (18 : Int32)) [(.int 0), (.int 16)]) _
  refine XS.ishr X314.here hx rfl (hb hby d22_9) rfl ?_
  rw [show ((16 : Int32) >>> ((0 : Int32) &&& 31)) = (16 : Int32) from by decide]
  show GO p e below T314 (mkF m 10 (la2 a1 (18 : Int32)) [(.int 16)]) _
  refine XS.istoreN X314.here hx rfl (hb hby d22_10) rfl (l' := (la3 a1 (18 : Int32) (16 : Int32))) rfl ?_
  show GO p e below T314 (mkF m 11 (la3 a1 (18 : Int32) (16 : Int32)) []) _
  refine XS.iloadN X314.here hx rfl (hb hby d22_11) rfl ?_
  show GO p e below T314 (mkF m 12 (la3 a1 (18 : Int32) (16 : Int32)) [(.int 18)]) _
  refine XS.iloadN X314.here hx rfl (hb hby d22_12) rfl ?_
  show GO p e below T314 (mkF m 13 (la3 a1 (18 : Int32) (16 : Int32)) [(.int 16), (.int 18)]) _
  refine XS.isub X314.here hx rfl (hb hby d22_13) rfl ?_
  rw [show ((18 : Int32) - (16 : Int32)) = (2 : Int32) from by decide]
  show GO p e below T314 (mkF m 14 (la3 a1 (18 : Int32) (16 : Int32)) [(.int 2)]) _
  refine XS.ifNo X314.here hx rfl (hb hby d22_14) rfl ((if0 _ _).trans (tlt ((by decide) : (0 : Int32) < (2 : Int32))).2.2.2) ?_
  show GO p e below T314 (mkF m 17 (la3 a1 (18 : Int32) (16 : Int32)) []) _
  refine XS.aloadN X314.here hx rfl (hb hby d22_17) rfl rfl ?_
  show GO p e below T314 (mkF m 18 (la3 a1 (18 : Int32) (16 : Int32)) [(.ref a1)]) _
  refine XS.aloadN X314.here hx rfl (hb hby d22_18) rfl rfl ?_
  show GO p e below T314 (mkF m 19 (la3 a1 (18 : Int32) (16 : Int32)) [(.ref a1), (.ref a1)]) _
  refine st315 _ ?_
  show GO p e below T315 (mkF m 22 (la3 a1 (18 : Int32) (16 : Int32)) [(.ref d1), (.ref a1)]) _
  refine XS.aloadN X315.here hx rfl (hb hby d22_22) rfl rfl ?_
  show GO p e below T315 (mkF m 23 (la3 a1 (18 : Int32) (16 : Int32)) [(.ref a1), (.ref d1), (.ref a1)]) _
  refine XS.iloadN X315.here hx rfl (hb hby d22_23) rfl ?_
  show GO p e below T315 (mkF m 24 (la3 a1 (18 : Int32) (16 : Int32)) [(.int 18), (.ref a1), (.ref d1), (.ref a1)]) _
  refine st316.trans ?_
  show GO p e below T316 (mkF m 27 (la3 a1 (18 : Int32) (16 : Int32)) [(.int 34), (.ref d1), (.ref a1)]) _
  refine XS.aloadN X316.here hx rfl (hb hby d22_27) rfl rfl ?_
  show GO p e below T316 (mkF m 28 (la3 a1 (18 : Int32) (16 : Int32)) [(.ref a1), (.int 34), (.ref d1), (.ref a1)]) _
  refine st317 _ ?_
  show GO p e below T317 (mkF m 31 (la3 a1 (18 : Int32) (16 : Int32)) [(.int 0), (.int 34), (.ref d1), (.ref a1)]) _
  refine XS.ishl X317.here hx rfl (hb hby d22_31) rfl ?_
  rw [show ((34 : Int32) <<< ((0 : Int32) &&& 31)) = (34 : Int32) from by decide]
  show GO p e below T317 (mkF m 32 (la3 a1 (18 : Int32) (16 : Int32)) [(.int 34), (.ref d1), (.ref a1)]) _
  refine st318 _ ?_
  show GO p e below T318 (mkF m 35 (la3 a1 (18 : Int32) (16 : Int32)) [(.ref t_318), (.ref a1)]) _
  refine st321 _ ?_
  show GO p e below T321 (mkF m 38 (la3 a1 (18 : Int32) (16 : Int32)) []) _
  exact X321.returnOut hx Bd.returns (hb hby d22_38) hr
 ·show Qrm_eg_18_14_16 Z a1 d1 kd xe0 xe1 xe2 xe3 xe4 xe5 xe6 xe7 xe8 xe9 xe10 xe11 xe12 xe13 z0 h0 n0 _ T321.heap _
  rw [e321]
  exact ⟨t_318, k_318, rfl, N321, (((Keep.refl h0 [a1]).trans K318 all0).wr W321 (Or.inl (List.mem_of_getElem? (i := 0) rfl))), f323, f321, f324, f325, f327, (by omega)⟩
def Qrm_sl4 (Z : State) (x1 : Addr) (t1 : Addr) (k1 : ClassId) (xs0 : Int32) (xs1 : Int32) (xs2 : Int32) (xs3 : Int32) (z0 : Int32) (h0 : Heap) (n0 : Nat) (v : Option Value) (h : Heap) (L : List Loc) : Prop := v = some (.int 4) ∧ Fr n0 L ∧ h = h0
theorem ef_rm_sl4 (m : MethodId) (x0 : Addr) : entryFrame m #[(.ref x0)] 1 = mkF m 0 #[.val (.ref x0)] [] := by first | rfl | (simp [entryFrame, mkF, argsToLocals, Value.category]; done)
theorem rm_sl4 (l : Launch) (Z : State) (a0 : Array Value) (hw : HW Z a0) (ws : List Jvm.Cond) (x1 : Addr) (t1 : Addr) (k1 : ClassId) (xs0 : Int32) (xs1 : Int32) (xs2 : Int32) (xs3 : Int32) (z0 : Int32) (h0 : Heap) (n0 : Nat) (Z0 : n0 ≤ h0.size) (O0 : Old Z n0 h0) (Esx1 : Exa Z h0 x1 kS1) (Fcx1 : Fld Z h0 x1 kS1 "coder" "B" (.int 0)) (Fvx1 : Fld Z h0 x1 kS1 "value" "[B" (.ref t1)) (Vsx1 : Arv Z h0 t1 k1 .byte (4 : Int32) [(.int xs0), (.int xs1), (.int xs2), (.int xs3)] (.int 0)) (SZc : Sta Z Z.heap kS1 "COMPACT_STRINGS" "Z" (.int z0)) (hz0 : ¬ z0 = 0) :
  OwnM l Z h0 (⟨kS1, "length", "()I"⟩ : MethodName) (Jvm.Cond.code (⟨kS1, "length", "()I"⟩ : MethodName) jdk_42_method_54_code 1 (some .int) :: ws) (RM 1 0 0 13) #[(.ref x1)] (Qrm_sl4 Z x1 t1 k1 xs0 xs1 xs2 xs3 z0 h0 n0) := by
 refine MetFree.of_bodySF (plainFor_of_name pn_1) hisR ?_
 intro p e s m args below meth c s₁ Bd hml0 hP hK
 obtain ⟨rfl, hZ, hh⟩ := hP
 have hx := Bd.exec
 have hby := Bd.bytes
 have hml : c.maxLocals = 1 := hml0
 have hown : s.vm.findClass kS1 = some m.cls := findClass_of_methodNamed Bd.named
 have hnm := (name_of_methodNamed Bd.named Bd.method).1
 have X0 : Stand p l e (RM 1 0 0 13) s m #[(.ref x1)] below meth c s₁ [] 0 0 := Stand.of_body Bd
 have e0 : s₁.heap = h0 := by rw [← hh, Bd.state]; rfl
 have N0 := Fr.nil n0
 have pre0 : ∀ t, GO p e below s₁ (mkF m 0 #[.val (.ref x1)] []) t → GO p e below s₁ (entryFrame m #[(.ref x1)] 1) t := fun t k => castTop (ef_rm_sl4 m x1) k
 have lt_Esx1 := ltA Esx1.lt
 have lt_Fcx1 := ltA Fcx1.lt
 have lt_Fvx1 := ltA Fvx1.lt
 have lt_Vsx1 := ltA Vsx1.lt
 obtain ⟨T328, X328, e328, st328⟩ := getF X0 hx hZ hown (host := "") (Or.inl (wd hw 28 rfl)) Via.refl e0 Fvx1 (g := (mkF m 1 #[.val (.ref x1)] [(.ref x1)])) rfl rfl (hb hby d20_1)
 obtain ⟨cl329, Ar329, -, S329, M329, -, -⟩ := id Vsx1
 -- pc 6: String.coder by rm_sc
 obtain ⟨cq330, kq330, q330a, q330b, q330c⟩ := isOf hZ e328 Esx1
 obtain ⟨_, _, ⟨T330, L330, k330, n330⟩, -, X330, ⟨Lc330, hQ330, l330, y330, z330⟩, st330⟩ := X328.virtualBack hx (y := (⟨kS1, "coder", "()B"⟩ : MethodName)) (z := (⟨kS1, "coder", "()B"⟩ : MethodName)) hown (mvT hZ (wd hw 110 rfl)) (mvT hZ (wd hw 111 rfl)) (notFace_of_selects (args := #[]) (mvT hZ (wd hw 113 rfl))) (mvT hZ (wd hw 113 rfl)) (mvT hZ (wd hw 112 rfl)) (by decide) (backOf (W := 1) (rm_sc l Z a0 hw [] x1 z0 h0 n0 Z0 O0 Fcx1 (by first | assumption | decide | omega) (by first | assumption | decide | omega)) hZ (wd hw 114 rfl) (wd hw 2 rfl) (by decide) (by decide)) q330a q330c (g := (mkF m 6 #[.val (.ref x1)] [(.ref x1), (.int 4)])) rfl (by rw [hml]; rfl) (Steps.refl _) (argsL := []) (rest := [(.int 4)]) (lenOf pd_7 rfl) rfl (wz rfl) (hb hby d20_6) (fun _ _ => ⟨rfl, e328, (by decide : 0 + 0 ≤ _), (by decide : 0 + 0 ≤ _)⟩)
 dsimp only [Pt.U, Pt.locs, Pt.cells, Pt.slots] at X330 l330 y330 z330 st330 hQ330
 rw [l330, y330, z330] at X330
 obtain ⟨rfl, N330q, e330⟩ := hQ330
 have N330 := Fr.app N0 N330q
 obtain ⟨fs, hr, hrun, hended, hW, hsame⟩ := X330.leave (v := some (.int 4)) (fun h => by rw [Bd.returns] at h; cases h)
 refine ⟨_, _, pre0 _ ?_, hrun, hended, _, _, rfl, ?_, ⟨_, rfl⟩, hW, hsame.mono (by decide) (by decide)⟩
 ·show GO p e below s₁ (mkF m 0 #[.val (.ref x1)] []) _
  refine XS.aloadN X0.here hx rfl (hb hby d20_0) rfl rfl ?_
  show GO p e below s₁ (mkF m 1 #[.val (.ref x1)] [(.ref x1)]) _
  refine st328 _ ?_
  show GO p e below T328 (mkF m 4 #[.val (.ref x1)] [(.ref t1)]) _
  refine X328.arraylength hx (by rw [e328]; exact Ar329.1) (State.isArrayOf_alike hZ.alike Ar329.2.1) (g := (mkF m 4 #[.val (.ref x1)] [(.ref t1)])) rfl rfl (hb hby d20_4) _ ?_
  rw [len_of S329 M329]
  show GO p e below T328 (mkF m 5 #[.val (.ref x1)] [(.int 4)]) _
  refine XS.aloadN X328.here hx rfl (hb hby d20_5) rfl rfl ?_
  show GO p e below T328 (mkF m 6 #[.val (.ref x1)] [(.ref x1), (.int 4)]) _
  refine st330.trans ?_
  show GO p e below T330 (mkF m 9 #[.val (.ref x1)] [(.int 0), (.int 4)]) _
  refine XS.ishr X330.here hx rfl (hb hby d20_9) rfl ?_
  rw [show ((4 : Int32) >>> ((0 : Int32) &&& 31)) = (4 : Int32) from by decide]
  show GO p e below T330 (mkF m 10 #[.val (.ref x1)] [(.int 4)]) _
  exact retI X330 hx Bd.returns (hb hby d20_10) hr
 ·show Qrm_sl4 Z x1 t1 k1 xs0 xs1 xs2 xs3 z0 h0 n0 _ T330.heap _
  rw [e330]
  exact ⟨rfl, N330, rfl⟩
def Qrm_gb_4_14_34 (Z : State) (x1 : Addr) (t1 : Addr) (k1 : ClassId) (xs0 : Int32) (xs1 : Int32) (xs2 : Int32) (xs3 : Int32) (d1 : Addr) (kd : ClassId) (xe0 : Int32) (xe1 : Int32) (xe2 : Int32) (xe3 : Int32) (xe4 : Int32) (xe5 : Int32) (xe6 : Int32) (xe7 : Int32) (xe8 : Int32) (xe9 : Int32) (xe10 : Int32) (xe11 : Int32) (xe12 : Int32) (xe13 : Int32) (z0 : Int32) (h0 : Heap) (n0 : Nat) (v : Option Value) (h : Heap) (L : List Loc) : Prop := v = none ∧ Fr n0 L ∧ Keep h0 h [d1] ∧ Arv Z h d1 kd .byte (34 : Int32) [(.int xe0), (.int xe1), (.int xe2), (.int xe3), (.int xe4), (.int xe5), (.int xe6), (.int xe7), (.int xe8), (.int xe9), (.int xe10), (.int xe11), (.int xe12), (.int xe13), (.int xs0), (.int xs1), (.int xs2), (.int xs3), (.int 0), (.int 0), (.int 0), (.int 0), (.int 0), (.int 0), (.int 0), (.int 0), (.int 0), (.int 0), (.int 0), (.int 0), (.int 0), (.int 0), (.int 0), (.int 0)] (.int 0)
theorem ef_rm_gb_4_14_34 (m : MethodId) (x0 : Addr) (x1 : Addr) (x2 : Int32) (x3 : Int32) : entryFrame m #[(.ref x0), (.ref x1), (.int x2), (.int x3)] 4 = mkF m 0 (la4 x0 x1 x2 x3) [] := by first | rfl | (simp [entryFrame, mkF, argsToLocals, Value.category]; done)
theorem rm_gb_4_14_34 (l : Launch) (Z : State) (a0 : Array Value) (hw : HW Z a0) (ws : List Jvm.Cond) (x1 : Addr) (t1 : Addr) (k1 : ClassId) (xs0 : Int32) (xs1 : Int32) (xs2 : Int32) (xs3 : Int32) (d1 : Addr) (kd : ClassId) (xe0 : Int32) (xe1 : Int32) (xe2 : Int32) (xe3 : Int32) (xe4 : Int32) (xe5 : Int32) (xe6 : Int32) (xe7 : Int32) (xe8 : Int32) (xe9 : Int32) (xe10 : Int32) (xe11 : Int32) (xe12 : Int32) (xe13 : Int32) (z0 : Int32) (h0 : Heap) (n0 : Nat) (Z0 : n0 ≤ h0.size) (O0 : Old Z n0 h0) (Esx1 : Exa Z h0 x1 kS1) (Fcx1 : Fld Z h0 x1 kS1 "coder" "B" (.int 0)) (Fvx1 : Fld Z h0 x1 kS1 "value" "[B" (.ref t1)) (Vsx1 : Arv Z h0 t1 k1 .byte (4 : Int32) [(.int xs0), (.int xs1), (.int xs2), (.int xs3)] (.int 0)) (Vd : Arv Z h0 d1 kd .byte (34 : Int32) [(.int xe0), (.int xe1), (.int xe2), (.int xe3), (.int xe4), (.int xe5), (.int xe6), (.int xe7), (.int xe8), (.int xe9), (.int xe10), (.int xe11), (.int xe12), (.int xe13), (.int 0), (.int 0), (.int 0), (.int 0), (.int 0), (.int 0), (.int 0), (.int 0), (.int 0), (.int 0), (.int 0), (.int 0), (.int 0), (.int 0), (.int 0), (.int 0), (.int 0), (.int 0), (.int 0), (.int 0)] (.int 0)) (SZc : Sta Z Z.heap kS1 "COMPACT_STRINGS" "Z" (.int z0)) (hz0 : ¬ z0 = 0) (gd : n0 ≤ d1) (ned : t1 ≠ d1) :
  OwnM l Z h0 (⟨kS1, "getBytes", "([BIB)V"⟩ : MethodName) (Jvm.Cond.code (⟨kS1, "getBytes", "([BIB)V"⟩ : MethodName) jdk_42_method_147_code 4 none :: ws) (RM 1 0 0 18) #[(.ref x1), (.ref d1), (.int 14), (.int 0)] (Qrm_gb_4_14_34 Z x1 t1 k1 xs0 xs1 xs2 xs3 d1 kd xe0 xe1 xe2 xe3 xe4 xe5 xe6 xe7 xe8 xe9 xe10 xe11 xe12 xe13 z0 h0 n0) := by
 refine MetFree.of_bodySF (plainFor_of_name pn_1) hisR ?_
 intro p e s m args below meth c s₁ Bd hml0 hP hK
 obtain ⟨rfl, hZ, hh⟩ := hP
 have hx := Bd.exec
 have hby := Bd.bytes
 have hml : c.maxLocals = 4 := hml0
 have hown : s.vm.findClass kS1 = some m.cls := findClass_of_methodNamed Bd.named
 have hnm := (name_of_methodNamed Bd.named Bd.method).1
 have X0 : Stand p l e (RM 1 0 0 18) s m #[(.ref x1), (.ref d1), (.int 14), (.int 0)] below meth c s₁ [] 0 0 := Stand.of_body Bd
 have e0 : s₁.heap = h0 := by rw [← hh, Bd.state]; rfl
 have N0 := Fr.nil n0
 have pre0 : ∀ t, GO p e below s₁ (mkF m 0 (la4 x1 d1 (14 : Int32) (0 : Int32)) []) t → GO p e below s₁ (entryFrame m #[(.ref x1), (.ref d1), (.int 14), (.int 0)] 4) t := fun t k => castTop (ef_rm_gb_4_14_34 m x1 d1 ((14 : Int32)) ((0 : Int32))) k
 have lt_Esx1 := ltA Esx1.lt
 have lt_Fcx1 := ltA Fcx1.lt
 have lt_Fvx1 := ltA Fvx1.lt
 have lt_Vsx1 := ltA Vsx1.lt
 have lt_Vd := ltA Vd.lt
 -- pc 1: String.coder by rm_sc
 obtain ⟨cq331, kq331, q331a, q331b, q331c⟩ := isOf hZ e0 Esx1
 obtain ⟨_, _, ⟨T331, L331, k331, n331⟩, -, X331, ⟨Lc331, hQ331, l331, y331, z331⟩, st331⟩ := X0.virtualBack hx (y := (⟨kS1, "coder", "()B"⟩ : MethodName)) (z := (⟨kS1, "coder", "()B"⟩ : MethodName)) hown (mvT hZ (wd hw 110 rfl)) (mvT hZ (wd hw 111 rfl)) (notFace_of_selects (args := #[]) (mvT hZ (wd hw 113 rfl))) (mvT hZ (wd hw 113 rfl)) (mvT hZ (wd hw 112 rfl)) (by decide) (backOf (W := 0) (rm_sc l Z a0 hw [] x1 z0 h0 n0 Z0 O0 Fcx1 (by first | assumption | decide | omega) (by first | assumption | decide | omega)) hZ (wd hw 114 rfl) (wd hw 2 rfl) (by decide) (by decide)) q331a q331c (g := (mkF m 1 (la4 x1 d1 (14 : Int32) (0 : Int32)) [(.ref x1)])) rfl (by rw [hml]; rfl) (Steps.refl _) (argsL := []) (rest := []) (lenOf pd_7 rfl) rfl (wz rfl) (hb hby d25_1) (fun _ _ => ⟨rfl, e0, (by decide : 0 + 0 ≤ _), (by decide : 0 + 0 ≤ _)⟩)
 dsimp only [Pt.U, Pt.locs, Pt.cells, Pt.slots] at X331 l331 y331 z331 st331 hQ331
 rw [l331, y331, z331] at X331
 obtain ⟨rfl, N331q, e331⟩ := hQ331
 have N331 := Fr.app N0 N331q
 obtain ⟨T332, X332, e332, st332⟩ := getF X331 hx hZ hown (host := "") (Or.inl (wd hw 28 rfl)) Via.refl e331 Fvx1 (g := (mkF m 9 (la4 x1 d1 (14 : Int32) (0 : Int32)) [(.ref x1)])) rfl rfl (hb hby d25_9)
 obtain ⟨T333, X333, e333, st333⟩ := getF X332 hx hZ hown (host := "") (Or.inl (wd hw 28 rfl)) Via.refl e332 Fvx1 (g := (mkF m 18 (la4 x1 d1 (14 : Int32) (0 : Int32)) [(.ref x1), (.int 14), (.ref d1), (.int 0), (.ref t1)])) rfl rfl (hb hby d25_18)
 obtain ⟨cl334, Ar334, -, S334, M334, -, -⟩ := id Vsx1
 obtain ⟨T335, h335, L335, X335, e335, N335, K335, A335, st335⟩ := cpA X333 hx hZ hown (wd hw 138 rfl) (wd hw 141 rfl) (wd hw 139 rfl) (wd hw 140 rfl) e333 Vsx1 Vd (us := [(.int xs0), (.int xs1), (.int xs2), (.int xs3)]) (Or.inl ⟨rfl, rfl⟩) (by decide) (by decide) (by decide) (by decide) (by decide) rfl (Nat.le_of_ble_eq_true rfl) N331 (by omega) (g := (mkF m 22 (la4 x1 d1 (14 : Int32) (0 : Int32)) [(.int 4), (.int 14), (.ref d1), (.int 0), (.ref t1)])) rfl (by rw [hml]; rfl) rfl (hb hby d25_22) (by decide) (W := 0) (wz rfl) (by decide)
 have sz335 : h0.size ≤ h335.size := K335.1
 have nz335 := Nat.le_trans Z0 sz335
 have V335 : Arv Z h335 d1 kd .byte (34 : Int32) [(.int xe0), (.int xe1), (.int xe2), (.int xe3), (.int xe4), (.int xe5), (.int xe6), (.int xe7), (.int xe8), (.int xe9), (.int xe10), (.int xe11), (.int xe12), (.int xe13), (.int xs0), (.int xs1), (.int xs2), (.int xs3), (.int 0), (.int 0), (.int 0), (.int 0), (.int 0), (.int 0), (.int 0), (.int 0), (.int 0), (.int 0), (.int 0), (.int 0), (.int 0), (.int 0), (.int 0), (.int 0)] (.int 0) := A335
 obtain ⟨fs, hr, hrun, hended, hW, hsame⟩ := X335.leave (v := none) (fun _ => rfl)
 refine ⟨_, _, pre0 _ ?_, hrun, hended, _, _, rfl, ?_, ⟨_, rfl⟩, hW, hsame.mono (by decide) (by decide)⟩
 ·show GO p e below s₁ (mkF m 0 (la4 x1 d1 (14 : Int32) (0 : Int32)) []) _
  refine XS.aloadN X0.here hx rfl (hb hby d25_0) rfl rfl ?_
  show GO p e below s₁ (mkF m 1 (la4 x1 d1 (14 : Int32) (0 : Int32)) [(.ref x1)]) _
  refine st331.trans ?_
  show GO p e below T331 (mkF m 4 (la4 x1 d1 (14 : Int32) (0 : Int32)) [(.int 0)]) _
  refine XS.iloadN X331.here hx rfl (hb hby d25_4) rfl ?_
  show GO p e below T331 (mkF m 5 (la4 x1 d1 (14 : Int32) (0 : Int32)) [(.int 0), (.int 0)]) _
  refine XS.icmpNo X331.here hx rfl (hb hby d25_5) rfl (teq (rfl : (0 : Int32) = (0 : Int32))).2 ?_
  show GO p e below T331 (mkF m 8 (la4 x1 d1 (14 : Int32) (0 : Int32)) []) _
  refine XS.aloadN X331.here hx rfl (hb hby d25_8) rfl rfl ?_
  show GO p e below T331 (mkF m 9 (la4 x1 d1 (14 : Int32) (0 : Int32)) [(.ref x1)]) _
  refine st332 _ ?_
  show GO p e below T332 (mkF m 12 (la4 x1 d1 (14 : Int32) (0 : Int32)) [(.ref t1)]) _
  refine XS.iconst X332.here hx rfl (hb hby d25_12) ?_
  show GO p e below T332 (mkF m 13 (la4 x1 d1 (14 : Int32) (0 : Int32)) [(.int 0), (.ref t1)]) _
  refine XS.aloadN X332.here hx rfl (hb hby d25_13) rfl rfl ?_
  show GO p e below T332 (mkF m 14 (la4 x1 d1 (14 : Int32) (0 : Int32)) [(.ref d1), (.int 0), (.ref t1)]) _
  refine XS.iloadN X332.here hx rfl (hb hby d25_14) rfl ?_
  show GO p e below T332 (mkF m 15 (la4 x1 d1 (14 : Int32) (0 : Int32)) [(.int 14), (.ref d1), (.int 0), (.ref t1)]) _
  refine XS.iloadN X332.here hx rfl (hb hby d25_15) rfl ?_
  show GO p e below T332 (mkF m 16 (la4 x1 d1 (14 : Int32) (0 : Int32)) [(.int 0), (.int 14), (.ref d1), (.int 0), (.ref t1)]) _
  refine XS.ishl X332.here hx rfl (hb hby d25_16) rfl ?_
  rw [show ((14 : Int32) <<< ((0 : Int32) &&& 31)) = (14 : Int32) from by decide]
  show GO p e below T332 (mkF m 17 (la4 x1 d1 (14 : Int32) (0 : Int32)) [(.int 14), (.ref d1), (.int 0), (.ref t1)]) _
  refine XS.aloadN X332.here hx rfl (hb hby d25_17) rfl rfl ?_
  show GO p e below T332 (mkF m 18 (la4 x1 d1 (14 : Int32) (0 : Int32)) [(.ref x1), (.int 14), (.ref d1), (.int 0), (.ref t1)]) _
  refine st333 _ ?_
  show GO p e below T333 (mkF m 21 (la4 x1 d1 (14 : Int32) (0 : Int32)) [(.ref t1), (.int 14), (.ref d1), (.int 0), (.ref t1)]) _
  refine X333.arraylength hx (by rw [e333]; exact Ar334.1) (State.isArrayOf_alike hZ.alike Ar334.2.1) (g := (mkF m 21 (la4 x1 d1 (14 : Int32) (0 : Int32)) [(.ref t1), (.int 14), (.ref d1), (.int 0), (.ref t1)])) rfl rfl (hb hby d25_21) _ ?_
  rw [len_of S334 M334]
  show GO p e below T333 (mkF m 22 (la4 x1 d1 (14 : Int32) (0 : Int32)) [(.int 4), (.int 14), (.ref d1), (.int 0), (.ref t1)]) _
  refine st335 _ ?_
  show GO p e below T335 (mkF m 25 (la4 x1 d1 (14 : Int32) (0 : Int32)) []) _
  refine XS.goto X335.here hx rfl (pc0 := 25) (pc' := 43) rfl (hb hby d25_25) (by decide) (by decide) ?_
  show GO p e below T335 (mkF m 43 (la4 x1 d1 (14 : Int32) (0 : Int32)) []) _
  exact X335.returnOut hx Bd.returns (hb hby d25_43) hr
 ·show Qrm_gb_4_14_34 Z x1 t1 k1 xs0 xs1 xs2 xs3 d1 kd xe0 xe1 xe2 xe3 xe4 xe5 xe6 xe7 xe8 xe9 xe10 xe11 xe12 xe13 z0 h0 n0 _ T335.heap _
  rw [e335]
  exact ⟨rfl, N335, ((Keep.refl h0 [d1]).trans K335 (allS (P := fun x => x ∈ _ ∨ _) (Or.inl (List.mem_of_getElem? (i := 0) rfl)) all0)), V335⟩
def Qrm_ps_4_14_34 (Z : State) (x1 : Addr) (t1 : Addr) (k1 : ClassId) (xs0 : Int32) (xs1 : Int32) (xs2 : Int32) (xs3 : Int32) (a1 : Addr) (d1 : Addr) (kd : ClassId) (xe0 : Int32) (xe1 : Int32) (xe2 : Int32) (xe3 : Int32) (xe4 : Int32) (xe5 : Int32) (xe6 : Int32) (xe7 : Int32) (xe8 : Int32) (xe9 : Int32) (xe10 : Int32) (xe11 : Int32) (xe12 : Int32) (xe13 : Int32) (z0 : Int32) (h0 : Heap) (n0 : Nat) (v : Option Value) (h : Heap) (L : List Loc) : Prop := v = none ∧ Fr n0 L ∧ Keep h0 h [d1] ∧ Arv Z h d1 kd .byte (34 : Int32) [(.int xe0), (.int xe1), (.int xe2), (.int xe3), (.int xe4), (.int xe5), (.int xe6), (.int xe7), (.int xe8), (.int xe9), (.int xe10), (.int xe11), (.int xe12), (.int xe13), (.int xs0), (.int xs1), (.int xs2), (.int xs3), (.int 0), (.int 0), (.int 0), (.int 0), (.int 0), (.int 0), (.int 0), (.int 0), (.int 0), (.int 0), (.int 0), (.int 0), (.int 0), (.int 0), (.int 0), (.int 0)] (.int 0)
theorem ef_rm_ps_4_14_34 (m : MethodId) (x0 : Addr) (x1 : Int32) (x2 : Addr) : entryFrame m #[(.ref x0), (.int x1), (.ref x2)] 3 = mkF m 0 (la5 x0 x1 x2) [] := by first | rfl | (simp [entryFrame, mkF, argsToLocals, Value.category]; done)
theorem rm_ps_4_14_34 (l : Launch) (Z : State) (a0 : Array Value) (hw : HW Z a0) (ws : List Jvm.Cond) (x1 : Addr) (t1 : Addr) (k1 : ClassId) (xs0 : Int32) (xs1 : Int32) (xs2 : Int32) (xs3 : Int32) (a1 : Addr) (d1 : Addr) (kd : ClassId) (xe0 : Int32) (xe1 : Int32) (xe2 : Int32) (xe3 : Int32) (xe4 : Int32) (xe5 : Int32) (xe6 : Int32) (xe7 : Int32) (xe8 : Int32) (xe9 : Int32) (xe10 : Int32) (xe11 : Int32) (xe12 : Int32) (xe13 : Int32) (z0 : Int32) (h0 : Heap) (n0 : Nat) (Z0 : n0 ≤ h0.size) (O0 : Old Z n0 h0) (Esx1 : Exa Z h0 x1 kS1) (Fcx1 : Fld Z h0 x1 kS1 "coder" "B" (.int 0)) (Fvx1 : Fld Z h0 x1 kS1 "value" "[B" (.ref t1)) (Vsx1 : Arv Z h0 t1 k1 .byte (4 : Int32) [(.int xs0), (.int xs1), (.int xs2), (.int xs3)] (.int 0)) (Eb : Exa Z h0 a1 kS2) (Fbv : Fld Z h0 a1 kS0 "value" "[B" (.ref d1)) (Fbc : Fld Z h0 a1 kS0 "coder" "B" (.int 0)) (Fbn : Fld Z h0 a1 kS0 "count" "I" (.int 14)) (Vb : Arv Z h0 d1 kd .byte (34 : Int32) [(.int xe0), (.int xe1), (.int xe2), (.int xe3), (.int xe4), (.int xe5), (.int xe6), (.int xe7), (.int xe8), (.int xe9), (.int xe10), (.int xe11), (.int xe12), (.int xe13), (.int 0), (.int 0), (.int 0), (.int 0), (.int 0), (.int 0), (.int 0), (.int 0), (.int 0), (.int 0), (.int 0), (.int 0), (.int 0), (.int 0), (.int 0), (.int 0), (.int 0), (.int 0), (.int 0), (.int 0)] (.int 0)) (SZc : Sta Z Z.heap kS1 "COMPACT_STRINGS" "Z" (.int z0)) (hz0 : ¬ z0 = 0) (gd : n0 ≤ d1) (ned : t1 ≠ d1) :
  OwnM l Z h0 (⟨kS0, "putStringAt", "(ILjava/lang/String;)V"⟩ : MethodName) (Jvm.Cond.code (⟨kS0, "putStringAt", "(ILjava/lang/String;)V"⟩ : MethodName) jdk_68_method_73_code 3 none :: ws) (RM 2 0 0 33) #[(.ref a1), (.int 14), (.ref x1)] (Qrm_ps_4_14_34 Z x1 t1 k1 xs0 xs1 xs2 xs3 a1 d1 kd xe0 xe1 xe2 xe3 xe4 xe5 xe6 xe7 xe8 xe9 xe10 xe11 xe12 xe13 z0 h0 n0) := by
 refine MetFree.of_bodySF (plainFor_of_name pn_6) hisR ?_
 intro p e s m args below meth c s₁ Bd hml0 hP hK
 obtain ⟨rfl, hZ, hh⟩ := hP
 have hx := Bd.exec
 have hby := Bd.bytes
 have hml : c.maxLocals = 3 := hml0
 have hown : s.vm.findClass kS0 = some m.cls := findClass_of_methodNamed Bd.named
 have hnm := (name_of_methodNamed Bd.named Bd.method).1
 have X0 : Stand p l e (RM 2 0 0 33) s m #[(.ref a1), (.int 14), (.ref x1)] below meth c s₁ [] 0 0 := Stand.of_body Bd
 have e0 : s₁.heap = h0 := by rw [← hh, Bd.state]; rfl
 have N0 := Fr.nil n0
 have pre0 : ∀ t, GO p e below s₁ (mkF m 0 (la5 a1 (14 : Int32) x1) []) t → GO p e below s₁ (entryFrame m #[(.ref a1), (.int 14), (.ref x1)] 3) t := fun t k => castTop (ef_rm_ps_4_14_34 m a1 ((14 : Int32)) x1) k
 have lt_Esx1 := ltA Esx1.lt
 have lt_Fcx1 := ltA Fcx1.lt
 have lt_Fvx1 := ltA Fvx1.lt
 have lt_Vsx1 := ltA Vsx1.lt
 have lt_Eb := ltA Eb.lt
 have lt_Fbv := ltA Fbv.lt
 have lt_Fbc := ltA Fbc.lt
 have lt_Fbn := ltA Fbn.lt
 have lt_Vb := ltA Vb.lt
 -- pc 2: AbstractStringBuilder.inflateIfNeededFor by rm_inf
 obtain ⟨cq336, q336a, q336b⟩ := Eb.cell
 obtain ⟨_, _, ⟨T336, L336, k336, n336⟩, -, X336, ⟨Lc336, hQ336, l336, y336, z336⟩, st336⟩ := X0.privateBack hx (y := (⟨kS0, "inflateIfNeededFor", "(Ljava/lang/String;)V"⟩ : MethodName)) hown (mvT hZ (wd hw 127 rfl)) (mvT hZ (wd hw 128 rfl)) (mvT hZ (own_selfsel (wd hw 130 rfl) (wd hw 129 rfl) (wd hw 128 rfl) (by decide))) (Cond.privateMethod_at (mvP hZ (wd hw 129 rfl) (args := #[]))) (mvT hZ (wd hw 131 rfl)) (by decide) (backOf (W := 0) (rm_inf l Z a0 hw [] a1 x1 z0 h0 n0 Z0 O0 Fbc Esx1 Fcx1 (by first | assumption | decide | omega) (by first | assumption | decide | omega)) hZ (wd hw 131 rfl) (wd hw 87 rfl) (by decide) (by decide)) (g := (mkF m 2 (la5 a1 (14 : Int32) x1) [(.ref x1), (.ref a1)])) rfl (by rw [hml]; rfl) (Steps.refl _) (a := a1) (by rw [e0]; exact q336a) q336b (argsL := [(.ref x1)]) (rest := []) (lenOf pd_8 rfl) rfl (wz rfl) (hb hby d23_2) (fun _ _ => ⟨rfl, e0, (by decide : 0 + 0 ≤ _), (by decide : 0 + 0 ≤ _)⟩)
 dsimp only [Pt.U, Pt.locs, Pt.cells, Pt.slots] at X336 l336 y336 z336 st336 hQ336
 rw [l336, y336, z336] at X336
 obtain ⟨rfl, N336q, e336⟩ := hQ336
 have N336 := Fr.app N0 N336q
 obtain ⟨T337, X337, e337, st337⟩ := getF X336 hx hZ hown (host := "") (Or.inl (wd hw 91 rfl)) Via.refl e336 Fbv (g := (mkF m 7 (la5 a1 (14 : Int32) x1) [(.ref a1), (.ref x1)])) rfl rfl (hb hby d23_7)
 obtain ⟨T338, X338, e338, st338⟩ := getF X337 hx hZ hown (host := "") (Or.inl (wd hw 93 rfl)) Via.refl e337 Fbc (g := (mkF m 12 (la5 a1 (14 : Int32) x1) [(.ref a1), (.int 14), (.ref d1), (.ref x1)])) rfl rfl (hb hby d23_12)
 -- pc 15: String.getBytes by rm_gb_4_14_34
 obtain ⟨cq339, kq339, q339a, q339b, q339c⟩ := isOf hZ e338 Esx1
 obtain ⟨_, _, ⟨T339, L339, k339, n339⟩, -, X339, ⟨Lc339, hQ339, l339, y339, z339⟩, st339⟩ := X338.virtualBack hx (y := (⟨kS1, "getBytes", "([BIB)V"⟩ : MethodName)) (z := (⟨kS1, "getBytes", "([BIB)V"⟩ : MethodName)) hown (mvT hZ (wd hw 133 rfl)) (mvT hZ (wd hw 134 rfl)) (notFace_of_selects (args := #[]) (mvT hZ (wd hw 136 rfl))) (mvT hZ (wd hw 136 rfl)) (mvT hZ (wd hw 135 rfl)) (by decide) (backOf (W := 0) (rm_gb_4_14_34 l Z a0 hw [] x1 t1 k1 xs0 xs1 xs2 xs3 d1 kd xe0 xe1 xe2 xe3 xe4 xe5 xe6 xe7 xe8 xe9 xe10 xe11 xe12 xe13 z0 h0 n0 Z0 O0 Esx1 Fcx1 Fvx1 Vsx1 Vb (by first | assumption | decide | omega) (by first | assumption | decide | omega) (by first | assumption | decide | omega) ned) hZ (wd hw 137 rfl) (wd hw 2 rfl) (by decide) (by decide)) q339a q339c (g := (mkF m 15 (la5 a1 (14 : Int32) x1) [(.int 0), (.int 14), (.ref d1), (.ref x1)])) rfl (by rw [hml]; rfl) (Steps.refl _) (argsL := [(.ref d1), (.int 14), (.int 0)]) (rest := []) (lenOf pd_9 rfl) rfl (wz rfl) (hb hby d23_15) (fun _ _ => ⟨rfl, e338, (by decide : 0 + 0 ≤ _), (by decide : 0 + 0 ≤ _)⟩)
 dsimp only [Pt.U, Pt.locs, Pt.cells, Pt.slots] at X339 l339 y339 z339 st339 hQ339
 rw [l339, y339, z339] at X339
 obtain ⟨h339, e339⟩ : ∃ z, T339.heap = z := ⟨_, rfl⟩
 rw [e339] at hQ339
 obtain ⟨rfl, N339q, K339, p339_0⟩ := hQ339
 have N339 := Fr.app N336 N339q
 have sz339 : h0.size ≤ h339.size := K339.1
 have nz339 := Nat.le_trans Z0 sz339
 have lt339_0 := ltA p339_0.lt
 obtain ⟨fs, hr, hrun, hended, hW, hsame⟩ := X339.leave (v := none) (fun _ => rfl)
 refine ⟨_, _, pre0 _ ?_, hrun, hended, _, _, rfl, ?_, ⟨_, rfl⟩, hW, hsame.mono (by decide) (by decide)⟩
 ·show GO p e below s₁ (mkF m 0 (la5 a1 (14 : Int32) x1) []) _
  refine XS.aloadN X0.here hx rfl (hb hby d23_0) rfl rfl ?_
  show GO p e below s₁ (mkF m 1 (la5 a1 (14 : Int32) x1) [(.ref a1)]) _
  refine XS.aloadN X0.here hx rfl (hb hby d23_1) rfl rfl ?_
  show GO p e below s₁ (mkF m 2 (la5 a1 (14 : Int32) x1) [(.ref x1), (.ref a1)]) _
  refine st336.trans ?_
  show GO p e below T336 (mkF m 5 (la5 a1 (14 : Int32) x1) []) _
  refine XS.aloadN X336.here hx rfl (hb hby d23_5) rfl rfl ?_
  show GO p e below T336 (mkF m 6 (la5 a1 (14 : Int32) x1) [(.ref x1)]) _
  refine XS.aloadN X336.here hx rfl (hb hby d23_6) rfl rfl ?_
  show GO p e below T336 (mkF m 7 (la5 a1 (14 : Int32) x1) [(.ref a1), (.ref x1)]) _
  refine st337 _ ?_
  show GO p e below T337 (mkF m 10 (la5 a1 (14 : Int32) x1) [(.ref d1), (.ref x1)]) _
  refine XS.iloadN X337.here hx rfl (hb hby d23_10) rfl ?_
  show GO p e below T337 (mkF m 11 (la5 a1 (14 : Int32) x1) [(.int 14), (.ref d1), (.ref x1)]) _
  refine XS.aloadN X337.here hx rfl (hb hby d23_11) rfl rfl ?_
  show GO p e below T337 (mkF m 12 (la5 a1 (14 : Int32) x1) [(.ref a1), (.int 14), (.ref d1), (.ref x1)]) _
  refine st338 _ ?_
  show GO p e below T338 (mkF m 15 (la5 a1 (14 : Int32) x1) [(.int 0), (.int 14), (.ref d1), (.ref x1)]) _
  refine st339.trans ?_
  show GO p e below T339 (mkF m 18 (la5 a1 (14 : Int32) x1) []) _
  exact X339.returnOut hx Bd.returns (hb hby d23_18) hr
 ·show Qrm_ps_4_14_34 Z x1 t1 k1 xs0 xs1 xs2 xs3 a1 d1 kd xe0 xe1 xe2 xe3 xe4 xe5 xe6 xe7 xe8 xe9 xe10 xe11 xe12 xe13 z0 h0 n0 _ T339.heap _
  rw [e339]
  exact ⟨rfl, N339, ((Keep.refl h0 [d1]).trans K339 (allS (P := fun x => x ∈ _ ∨ _) (Or.inl (List.mem_of_getElem? (i := 0) rfl)) all0)), p339_0⟩
def Qrm_ag_4_14_16 (Z : State) (x1 : Addr) (t1 : Addr) (k1 : ClassId) (xs0 : Int32) (xs1 : Int32) (xs2 : Int32) (xs3 : Int32) (a1 : Addr) (d1 : Addr) (kd : ClassId) (xe0 : Int32) (xe1 : Int32) (xe2 : Int32) (xe3 : Int32) (xe4 : Int32) (xe5 : Int32) (xe6 : Int32) (xe7 : Int32) (xe8 : Int32) (xe9 : Int32) (xe10 : Int32) (xe11 : Int32) (xe12 : Int32) (xe13 : Int32) (z0 : Int32) (h0 : Heap) (n0 : Nat) (v : Option Value) (h : Heap) (L : List Loc) : Prop := ∃ t : Addr, ∃ k : ClassId, v = some (.ref a1) ∧ Fr n0 L ∧ Keep h0 h [a1] ∧ Exa Z h a1 kS2 ∧ Fld Z h a1 kS0 "value" "[B" (.ref t) ∧ Fld Z h a1 kS0 "coder" "B" (.int 0) ∧ Fld Z h a1 kS0 "count" "I" (.int 18) ∧ Arv Z h t k .byte (34 : Int32) [(.int xe0), (.int xe1), (.int xe2), (.int xe3), (.int xe4), (.int xe5), (.int xe6), (.int xe7), (.int xe8), (.int xe9), (.int xe10), (.int xe11), (.int xe12), (.int xe13), (.int xs0), (.int xs1), (.int xs2), (.int xs3), (.int 0), (.int 0), (.int 0), (.int 0), (.int 0), (.int 0), (.int 0), (.int 0), (.int 0), (.int 0), (.int 0), (.int 0), (.int 0), (.int 0), (.int 0), (.int 0)] (.int 0) ∧ h0.size ≤ t
theorem ef_rm_ag_4_14_16 (m : MethodId) (x0 : Addr) (x1 : Addr) : entryFrame m #[(.ref x0), (.ref x1)] 3 = mkF m 0 (la6 x0 x1) [] := by first | rfl | (simp [entryFrame, mkF, argsToLocals, Value.category]; done)
theorem rm_ag_4_14_16 (l : Launch) (Z : State) (a0 : Array Value) (hw : HW Z a0) (ws : List Jvm.Cond) (x1 : Addr) (t1 : Addr) (k1 : ClassId) (xs0 : Int32) (xs1 : Int32) (xs2 : Int32) (xs3 : Int32) (a1 : Addr) (d1 : Addr) (kd : ClassId) (xe0 : Int32) (xe1 : Int32) (xe2 : Int32) (xe3 : Int32) (xe4 : Int32) (xe5 : Int32) (xe6 : Int32) (xe7 : Int32) (xe8 : Int32) (xe9 : Int32) (xe10 : Int32) (xe11 : Int32) (xe12 : Int32) (xe13 : Int32) (z0 : Int32) (h0 : Heap) (n0 : Nat) (Z0 : n0 ≤ h0.size) (O0 : Old Z n0 h0) (Esx1 : Exa Z h0 x1 kS1) (Fcx1 : Fld Z h0 x1 kS1 "coder" "B" (.int 0)) (Fvx1 : Fld Z h0 x1 kS1 "value" "[B" (.ref t1)) (Vsx1 : Arv Z h0 t1 k1 .byte (4 : Int32) [(.int xs0), (.int xs1), (.int xs2), (.int xs3)] (.int 0)) (Eb : Exa Z h0 a1 kS2) (Fbv : Fld Z h0 a1 kS0 "value" "[B" (.ref d1)) (Fbc : Fld Z h0 a1 kS0 "coder" "B" (.int 0)) (Fbn : Fld Z h0 a1 kS0 "count" "I" (.int 14)) (Vb : Arv Z h0 d1 kd .byte (16 : Int32) [(.int xe0), (.int xe1), (.int xe2), (.int xe3), (.int xe4), (.int xe5), (.int xe6), (.int xe7), (.int xe8), (.int xe9), (.int xe10), (.int xe11), (.int xe12), (.int xe13), (.int 0), (.int 0)] (.int 0)) (SZc : Sta Z Z.heap kS1 "COMPACT_STRINGS" "Z" (.int z0)) (hz0 : ¬ z0 = 0) (ga : n0 ≤ a1) (gd : n0 ≤ d1) (ned : t1 ≠ d1) :
  OwnM l Z h0 (⟨kS0, "append", "(Ljava/lang/String;)Ljava/lang/AbstractStringBuilder;"⟩ : MethodName) (Jvm.Cond.code (⟨kS0, "append", "(Ljava/lang/String;)Ljava/lang/AbstractStringBuilder;"⟩ : MethodName) jdk_68_method_22_code 3 (some (.object kS0)) :: ws) (RM 4 1 34 62) #[(.ref a1), (.ref x1)] (Qrm_ag_4_14_16 Z x1 t1 k1 xs0 xs1 xs2 xs3 a1 d1 kd xe0 xe1 xe2 xe3 xe4 xe5 xe6 xe7 xe8 xe9 xe10 xe11 xe12 xe13 z0 h0 n0) := by
 refine MetFree.of_bodySF (plainFor_of_name pn_6) hisR ?_
 intro p e s m args below meth c s₁ Bd hml0 hP hK
 obtain ⟨rfl, hZ, hh⟩ := hP
 have hx := Bd.exec
 have hby := Bd.bytes
 have hml : c.maxLocals = 3 := hml0
 have hown : s.vm.findClass kS0 = some m.cls := findClass_of_methodNamed Bd.named
 have hnm := (name_of_methodNamed Bd.named Bd.method).1
 have X0 : Stand p l e (RM 4 1 34 62) s m #[(.ref a1), (.ref x1)] below meth c s₁ [] 0 0 := Stand.of_body Bd
 have e0 : s₁.heap = h0 := by rw [← hh, Bd.state]; rfl
 have N0 := Fr.nil n0
 have pre0 : ∀ t, GO p e below s₁ (mkF m 0 (la6 a1 x1) []) t → GO p e below s₁ (entryFrame m #[(.ref a1), (.ref x1)] 3) t := fun t k => castTop (ef_rm_ag_4_14_16 m a1 x1) k
 have lt_Esx1 := ltA Esx1.lt
 have lt_Fcx1 := ltA Fcx1.lt
 have lt_Fvx1 := ltA Fvx1.lt
 have lt_Vsx1 := ltA Vsx1.lt
 have lt_Eb := ltA Eb.lt
 have lt_Fbv := ltA Fbv.lt
 have lt_Fbc := ltA Fbc.lt
 have lt_Fbn := ltA Fbn.lt
 have lt_Vb := ltA Vb.lt
 -- pc 10: String.length by rm_sl4
 obtain ⟨cq340, kq340, q340a, q340b, q340c⟩ := isOf hZ e0 Esx1
 obtain ⟨_, _, ⟨T340, L340, k340, n340⟩, -, X340, ⟨Lc340, hQ340, l340, y340, z340⟩, st340⟩ := X0.virtualBack hx (y := (⟨kS1, "length", "()I"⟩ : MethodName)) (z := (⟨kS1, "length", "()I"⟩ : MethodName)) hown (mvT hZ (wd hw 105 rfl)) (mvT hZ (wd hw 106 rfl)) (notFace_of_selects (args := #[]) (mvT hZ (wd hw 108 rfl))) (mvT hZ (wd hw 108 rfl)) (mvT hZ (wd hw 107 rfl)) (by decide) (backOf (W := 0) (rm_sl4 l Z a0 hw [] x1 t1 k1 xs0 xs1 xs2 xs3 z0 h0 n0 Z0 O0 Esx1 Fcx1 Fvx1 Vsx1 (by first | assumption | decide | omega) (by first | assumption | decide | omega)) hZ (wd hw 109 rfl) (wd hw 2 rfl) (by decide) (by decide)) q340a q340c (g := (mkF m 10 (la6 a1 x1) [(.ref x1)])) rfl (by rw [hml]; rfl) (Steps.refl _) (argsL := []) (rest := []) (lenOf pd_10 rfl) rfl (wz rfl) (hb hby d19_10) (fun _ _ => ⟨rfl, e0, (by decide : 0 + 0 ≤ _), (by decide : 0 + 0 ≤ _)⟩)
 dsimp only [Pt.U, Pt.locs, Pt.cells, Pt.slots] at X340 l340 y340 z340 st340 hQ340
 rw [l340, y340, z340] at X340
 obtain ⟨rfl, N340q, e340⟩ := hQ340
 have N340 := Fr.app N0 N340q
 obtain ⟨T341, X341, e341, st341⟩ := getF X340 hx hZ hown (host := "") (Or.inl (wd hw 115 rfl)) Via.refl e340 Fbn (g := (mkF m 16 (la0 a1 x1 (4 : Int32)) [(.ref a1), (.ref a1)])) rfl rfl (hb hby d19_16)
 -- pc 21: AbstractStringBuilder.ensureCapacityInternal by rm_eg_18_14_16
 obtain ⟨cq342, q342a, q342b⟩ := Eb.cell
 obtain ⟨_, _, ⟨T342, L342, k342, n342⟩, -, X342, ⟨Lc342, hQ342, l342, y342, z342⟩, st342⟩ := X341.privateBack hx (y := (⟨kS0, "ensureCapacityInternal", "(I)V"⟩ : MethodName)) hown (mvT hZ (wd hw 117 rfl)) (mvT hZ (wd hw 118 rfl)) (mvT hZ (own_selfsel (wd hw 120 rfl) (wd hw 119 rfl) (wd hw 118 rfl) (by decide))) (Cond.privateMethod_at (mvP hZ (wd hw 119 rfl) (args := #[]))) (mvT hZ (wd hw 121 rfl)) (by decide) (backOf (W := 0) (rm_eg_18_14_16 l Z a0 hw [] a1 d1 kd xe0 xe1 xe2 xe3 xe4 xe5 xe6 xe7 xe8 xe9 xe10 xe11 xe12 xe13 z0 h0 n0 Z0 Eb Fbv Fbc Fbn Vb (by first | assumption | decide | omega)) hZ (wd hw 121 rfl) (wd hw 87 rfl) (by decide) (by decide)) (g := (mkF m 21 (la0 a1 x1 (4 : Int32)) [(.int 18), (.ref a1)])) rfl (by rw [hml]; rfl) (Steps.refl _) (a := a1) (by rw [e341]; exact q342a) q342b (argsL := [(.int 18)]) (rest := []) (lenOf pd_6 rfl) rfl (wz rfl) (hb hby d19_21) (fun _ _ => ⟨rfl, e341, (by decide : 0 + 1 ≤ _), (by decide : 0 + 34 ≤ _)⟩)
 dsimp only [Pt.U, Pt.locs, Pt.cells, Pt.slots] at X342 l342 y342 z342 st342 hQ342
 rw [l342, y342, z342] at X342
 obtain ⟨h342, e342⟩ : ∃ z, T342.heap = z := ⟨_, rfl⟩
 rw [e342] at hQ342
 obtain ⟨t_342, k_342, rfl, N342q, K342, p342_0, p342_1, p342_2, p342_3, p342_4, r342_0⟩ := hQ342
 have N342 := Fr.app N340 N342q
 have ne343 : a1 ≠ x1 := ne_exa Eb Esx1 (by decide)
 have ne344 : a1 ≠ d1 := Exa.neArv Eb Vb (wd hw 78 rfl)
 have ne345 : a1 ≠ t1 := Exa.neArv Eb Vsx1 (wd hw 78 rfl)
 have sz342 : h0.size ≤ h342.size := K342.1
 have nz342 := Nat.le_trans Z0 sz342
 have lt342_0 := ltA p342_0.lt
 have lt342_4 := ltA p342_4.lt
 obtain ⟨T346, X346, e346, st346⟩ := getF X342 hx hZ hown (host := "") (Or.inl (wd hw 115 rfl)) Via.refl e342 p342_3 (g := (mkF m 26 (la0 a1 x1 (4 : Int32)) [(.ref a1), (.ref a1)])) rfl rfl (hb hby d19_26)
 -- pc 30: AbstractStringBuilder.putStringAt by rm_ps_4_14_34
 have ge348 : n0 ≤ a1 := by omega
 have f349 : Old Z n0 h342 := (O0.keep K342 (allS ge348 all0))
 have f350 : Exa Z h342 x1 kS1 := (Esx1.keep K342)
 have f351 : Fld Z h342 x1 kS1 "coder" "B" (.int 0) := (Fcx1.keep K342 (ninS (Ne.symm ne343) nin0))
 have f352 : Fld Z h342 x1 kS1 "value" "[B" (.ref t1) := (Fvx1.keep K342 (ninS (Ne.symm ne343) nin0))
 have f353 : Arv Z h342 t1 k1 .byte (4 : Int32) [(.int xs0), (.int xs1), (.int xs2), (.int xs3)] (.int 0) := (Vsx1.keep K342 (ninS (Ne.symm ne345) nin0))
 have ne354 : t1 ≠ t_342 := neN (by omega)
 obtain ⟨cq347, q347a, q347b⟩ := p342_0.cell
 obtain ⟨_, _, ⟨T347, L347, k347, n347⟩, -, X347, ⟨Lc347, hQ347, l347, y347, z347⟩, st347⟩ := X346.privateBack hx (y := (⟨kS0, "putStringAt", "(ILjava/lang/String;)V"⟩ : MethodName)) hown (mvT hZ (wd hw 122 rfl)) (mvT hZ (wd hw 123 rfl)) (mvT hZ (own_selfsel (wd hw 125 rfl) (wd hw 124 rfl) (wd hw 123 rfl) (by decide))) (Cond.privateMethod_at (mvP hZ (wd hw 124 rfl) (args := #[]))) (mvT hZ (wd hw 126 rfl)) (by decide) (backOf (W := 0) (rm_ps_4_14_34 l Z a0 hw [] x1 t1 k1 xs0 xs1 xs2 xs3 a1 t_342 k_342 xe0 xe1 xe2 xe3 xe4 xe5 xe6 xe7 xe8 xe9 xe10 xe11 xe12 xe13 z0 h342 n0 nz342 f349 f350 f351 f352 f353 p342_0 p342_1 p342_2 p342_3 p342_4 (by first | assumption | decide | omega) (by first | assumption | decide | omega) (by first | assumption | decide | omega) ne354) hZ (wd hw 126 rfl) (wd hw 87 rfl) (by decide) (by decide)) (g := (mkF m 30 (la0 a1 x1 (4 : Int32)) [(.ref x1), (.int 14), (.ref a1)])) rfl (by rw [hml]; rfl) (Steps.refl _) (a := a1) (by rw [e346]; exact q347a) q347b (argsL := [(.int 14), (.ref x1)]) (rest := []) (lenOf pd_11 rfl) rfl (wz rfl) (hb hby d19_30) (fun _ _ => ⟨rfl, e346, (by decide : 1 + 0 ≤ _), (by decide : 34 + 0 ≤ _)⟩)
 dsimp only [Pt.U, Pt.locs, Pt.cells, Pt.slots] at X347 l347 y347 z347 st347 hQ347
 rw [l347, y347, z347] at X347
 obtain ⟨h347, e347⟩ : ∃ z, T347.heap = z := ⟨_, rfl⟩
 rw [e347] at hQ347
 obtain ⟨rfl, N347q, K347, p347_0⟩ := hQ347
 have N347 := Fr.app N342 N347q
 have ne355 : t_342 ≠ x1 := Ne.symm (Exa.neArv f350 p342_4 (wd hw 1 rfl))
 have ne356 : t_342 ≠ a1 := Ne.symm (Exa.neArv p342_0 p342_4 (wd hw 78 rfl))
 have sz347 : h342.size ≤ h347.size := K347.1
 have nz347 := Nat.le_trans nz342 sz347
 have lt347_0 := ltA p347_0.lt
 have f357 : Fld Z h347 a1 kS0 "count" "I" (.int 14) := (p342_3.keep K347 (ninS (Ne.symm ne356) nin0))
 obtain ⟨T358, X358, e358, st358⟩ := getF X347 hx hZ hown (host := "") (Or.inl (wd hw 115 rfl)) Via.refl e347 f357 (g := (mkF m 35 (la0 a1 x1 (4 : Int32)) [(.ref a1), (.ref a1)])) rfl rfl (hb hby d19_35)
 have f359 : Exa Z h347 a1 kS2 := (p342_0.keep K347)
 obtain ⟨T360, h360, X360, e360, W360, st360⟩ := putF X358 hx hZ hown (host := "") (Or.inl (wd hw 115 rfl)) Via.refl e358 f357 f359 (Or.inl (wd hw 116 rfl)) (wd hw 78 rfl) (ty := .int) (by decide) rfl rfl (g := (mkF m 40 (la0 a1 x1 (4 : Int32)) [(.int 18), (.ref a1)])) rfl rfl (hb hby d19_40)
 have N360 := Fr.snoc X360 N347 ge348
 have sz360 : h347.size ≤ h360.size := Nat.le_of_eq W360.size.symm
 have nz360 := Nat.le_trans nz347 sz360
 have f360 : Fld Z h360 a1 kS0 "count" "I" (.int 18) := f357.same W360
 have f361 : Exa Z h360 a1 kS2 := (f359.wr W360)
 have f362 : Fld Z h360 a1 kS0 "value" "[B" (.ref t_342) := ((p342_1.keep K347 (ninS (Ne.symm ne356) nin0)).other W360 (Or.inr (slot_ne (Or.inl (wd hw 92 rfl)) (Or.inl (wd hw 116 rfl)) (by decide) (t := (.array .byte)) (t' := .int) (by decide) (by decide))))
 have f363 : Fld Z h360 a1 kS0 "coder" "B" (.int 0) := ((p342_2.keep K347 (ninS (Ne.symm ne356) nin0)).other W360 (Or.inr (slot_ne (Or.inl (wd hw 94 rfl)) (Or.inl (wd hw 116 rfl)) (by decide) (t := .byte) (t' := .int) (by decide) (by decide))))
 have f364 : Arv Z h360 t_342 k_342 .byte (34 : Int32) [(.int xe0), (.int xe1), (.int xe2), (.int xe3), (.int xe4), (.int xe5), (.int xe6), (.int xe7), (.int xe8), (.int xe9), (.int xe10), (.int xe11), (.int xe12), (.int xe13), (.int xs0), (.int xs1), (.int xs2), (.int xs3), (.int 0), (.int 0), (.int 0), (.int 0), (.int 0), (.int 0), (.int 0), (.int 0), (.int 0), (.int 0), (.int 0), (.int 0), (.int 0), (.int 0), (.int 0), (.int 0)] (.int 0) := (p347_0.other W360 ne356)
 obtain ⟨fs, hr, hrun, hended, hW, hsame⟩ := X360.leave (v := some (.ref a1)) (fun h => by rw [Bd.returns] at h; cases h)
 refine ⟨_, _, pre0 _ ?_, hrun, hended, _, _, rfl, ?_, ⟨_, rfl⟩, hW, hsame.mono (by decide) (by decide)⟩
 ·show GO p e below s₁ (mkF m 0 (la6 a1 x1) []) _
  refine XS.aloadN X0.here hx rfl (hb hby d19_0) rfl rfl ?_
  show GO p e below s₁ (mkF m 1 (la6 a1 x1) [(.ref x1)]) _
  refine XS.ifnonnullYes X0.here hx rfl (pc0 := 1) (pc' := 9) rfl (hb hby d19_1) rfl (by decide) (by decide) ?_
  show GO p e below s₁ (mkF m 9 (la6 a1 x1) []) _
  refine XS.aloadN X0.here hx rfl (hb hby d19_9) rfl rfl ?_
  show GO p e below s₁ (mkF m 10 (la6 a1 x1) [(.ref x1)]) _
  refine st340.trans ?_
  show GO p e below T340 (mkF m 13 (la6 a1 x1) [(.int 4)]) _
  refine XS.istoreN X340.here hx rfl (hb hby d19_13) rfl (l' := (la0 a1 x1 (4 : Int32))) rfl ?_
  show GO p e below T340 (mkF m 14 (la0 a1 x1 (4 : Int32)) []) _
  refine XS.aloadN X340.here hx rfl (hb hby d19_14) rfl rfl ?_
  show GO p e below T340 (mkF m 15 (la0 a1 x1 (4 : Int32)) [(.ref a1)]) _
  refine XS.aloadN X340.here hx rfl (hb hby d19_15) rfl rfl ?_
  show GO p e below T340 (mkF m 16 (la0 a1 x1 (4 : Int32)) [(.ref a1), (.ref a1)]) _
  refine st341 _ ?_
  show GO p e below T341 (mkF m 19 (la0 a1 x1 (4 : Int32)) [(.int 14), (.ref a1)]) _
  refine XS.iloadN X341.here hx rfl (hb hby d19_19) rfl ?_
  show GO p e below T341 (mkF m 20 (la0 a1 x1 (4 : Int32)) [(.int 4), (.int 14), (.ref a1)]) _
  refine XS.iadd X341.here hx rfl (hb hby d19_20) rfl ?_
  rw [show ((14 : Int32) + (4 : Int32)) = (18 : Int32) from by decide]
  show GO p e below T341 (mkF m 21 (la0 a1 x1 (4 : Int32)) [(.int 18), (.ref a1)]) _
  refine st342.trans ?_
  show GO p e below T342 (mkF m 24 (la0 a1 x1 (4 : Int32)) []) _
  refine XS.aloadN X342.here hx rfl (hb hby d19_24) rfl rfl ?_
  show GO p e below T342 (mkF m 25 (la0 a1 x1 (4 : Int32)) [(.ref a1)]) _
  refine XS.aloadN X342.here hx rfl (hb hby d19_25) rfl rfl ?_
  show GO p e below T342 (mkF m 26 (la0 a1 x1 (4 : Int32)) [(.ref a1), (.ref a1)]) _
  refine st346 _ ?_
  show GO p e below T346 (mkF m 29 (la0 a1 x1 (4 : Int32)) [(.int 14), (.ref a1)]) _
  refine XS.aloadN X346.here hx rfl (hb hby d19_29) rfl rfl ?_
  show GO p e below T346 (mkF m 30 (la0 a1 x1 (4 : Int32)) [(.ref x1), (.int 14), (.ref a1)]) _
  refine st347.trans ?_
  show GO p e below T347 (mkF m 33 (la0 a1 x1 (4 : Int32)) []) _
  refine XS.aloadN X347.here hx rfl (hb hby d19_33) rfl rfl ?_
  show GO p e below T347 (mkF m 34 (la0 a1 x1 (4 : Int32)) [(.ref a1)]) _
  refine XS.dup X347.here hx rfl (hb hby d19_34) rfl rfl ?_
  show GO p e below T347 (mkF m 35 (la0 a1 x1 (4 : Int32)) [(.ref a1), (.ref a1)]) _
  refine st358 _ ?_
  show GO p e below T358 (mkF m 38 (la0 a1 x1 (4 : Int32)) [(.int 14), (.ref a1)]) _
  refine XS.iloadN X358.here hx rfl (hb hby d19_38) rfl ?_
  show GO p e below T358 (mkF m 39 (la0 a1 x1 (4 : Int32)) [(.int 4), (.int 14), (.ref a1)]) _
  refine XS.iadd X358.here hx rfl (hb hby d19_39) rfl ?_
  rw [show ((14 : Int32) + (4 : Int32)) = (18 : Int32) from by decide]
  show GO p e below T358 (mkF m 40 (la0 a1 x1 (4 : Int32)) [(.int 18), (.ref a1)]) _
  refine st360 _ ?_
  show GO p e below T360 (mkF m 43 (la0 a1 x1 (4 : Int32)) []) _
  refine XS.aloadN X360.here hx rfl (hb hby d19_43) rfl rfl ?_
  show GO p e below T360 (mkF m 44 (la0 a1 x1 (4 : Int32)) [(.ref a1)]) _
  exact retOut X360 hx Bd.returns rfl (Or.inr (Or.inr (Or.inr (Or.inr ⟨rfl, rfl, rfl⟩)))) (hb hby d19_44) hr
 ·show Qrm_ag_4_14_16 Z x1 t1 k1 xs0 xs1 xs2 xs3 a1 d1 kd xe0 xe1 xe2 xe3 xe4 xe5 xe6 xe7 xe8 xe9 xe10 xe11 xe12 xe13 z0 h0 n0 _ T360.heap _
  rw [e360]
  exact ⟨t_342, k_342, rfl, N360, ((((Keep.refl h0 [a1]).trans K342 (allS (P := fun x => x ∈ _ ∨ _) (Or.inl (List.mem_of_getElem? (i := 0) rfl)) all0)).trans K347 (allS (P := fun x => x ∈ _ ∨ _) (Or.inr (by omega)) all0)).wr W360 (Or.inl (List.mem_of_getElem? (i := 0) rfl))), f361, f362, f363, f360, f364, (by omega)⟩
def Qrm_sg_4_14_16 (Z : State) (x1 : Addr) (t1 : Addr) (k1 : ClassId) (xs0 : Int32) (xs1 : Int32) (xs2 : Int32) (xs3 : Int32) (a1 : Addr) (d1 : Addr) (kd : ClassId) (xe0 : Int32) (xe1 : Int32) (xe2 : Int32) (xe3 : Int32) (xe4 : Int32) (xe5 : Int32) (xe6 : Int32) (xe7 : Int32) (xe8 : Int32) (xe9 : Int32) (xe10 : Int32) (xe11 : Int32) (xe12 : Int32) (xe13 : Int32) (z0 : Int32) (h0 : Heap) (n0 : Nat) (v : Option Value) (h : Heap) (L : List Loc) : Prop := ∃ t : Addr, ∃ k : ClassId, v = some (.ref a1) ∧ Fr n0 L ∧ Keep h0 h [a1] ∧ Exa Z h a1 kS2 ∧ Fld Z h a1 kS0 "value" "[B" (.ref t) ∧ Fld Z h a1 kS0 "coder" "B" (.int 0) ∧ Fld Z h a1 kS0 "count" "I" (.int 18) ∧ Arv Z h t k .byte (34 : Int32) [(.int xe0), (.int xe1), (.int xe2), (.int xe3), (.int xe4), (.int xe5), (.int xe6), (.int xe7), (.int xe8), (.int xe9), (.int xe10), (.int xe11), (.int xe12), (.int xe13), (.int xs0), (.int xs1), (.int xs2), (.int xs3), (.int 0), (.int 0), (.int 0), (.int 0), (.int 0), (.int 0), (.int 0), (.int 0), (.int 0), (.int 0), (.int 0), (.int 0), (.int 0), (.int 0), (.int 0), (.int 0)] (.int 0) ∧ h0.size ≤ t
theorem ef_rm_sg_4_14_16 (m : MethodId) (x0 : Addr) (x1 : Addr) : entryFrame m #[(.ref x0), (.ref x1)] 2 = mkF m 0 #[.val (.ref x0), .val (.ref x1)] [] := by first | rfl | (simp [entryFrame, mkF, argsToLocals, Value.category]; done)
theorem rm_sg_4_14_16 (l : Launch) (Z : State) (a0 : Array Value) (hw : HW Z a0) (ws : List Jvm.Cond) (x1 : Addr) (t1 : Addr) (k1 : ClassId) (xs0 : Int32) (xs1 : Int32) (xs2 : Int32) (xs3 : Int32) (a1 : Addr) (d1 : Addr) (kd : ClassId) (xe0 : Int32) (xe1 : Int32) (xe2 : Int32) (xe3 : Int32) (xe4 : Int32) (xe5 : Int32) (xe6 : Int32) (xe7 : Int32) (xe8 : Int32) (xe9 : Int32) (xe10 : Int32) (xe11 : Int32) (xe12 : Int32) (xe13 : Int32) (z0 : Int32) (h0 : Heap) (n0 : Nat) (Z0 : n0 ≤ h0.size) (O0 : Old Z n0 h0) (Esx1 : Exa Z h0 x1 kS1) (Fcx1 : Fld Z h0 x1 kS1 "coder" "B" (.int 0)) (Fvx1 : Fld Z h0 x1 kS1 "value" "[B" (.ref t1)) (Vsx1 : Arv Z h0 t1 k1 .byte (4 : Int32) [(.int xs0), (.int xs1), (.int xs2), (.int xs3)] (.int 0)) (Eb : Exa Z h0 a1 kS2) (Fbv : Fld Z h0 a1 kS0 "value" "[B" (.ref d1)) (Fbc : Fld Z h0 a1 kS0 "coder" "B" (.int 0)) (Fbn : Fld Z h0 a1 kS0 "count" "I" (.int 14)) (Vb : Arv Z h0 d1 kd .byte (16 : Int32) [(.int xe0), (.int xe1), (.int xe2), (.int xe3), (.int xe4), (.int xe5), (.int xe6), (.int xe7), (.int xe8), (.int xe9), (.int xe10), (.int xe11), (.int xe12), (.int xe13), (.int 0), (.int 0)] (.int 0)) (SZc : Sta Z Z.heap kS1 "COMPACT_STRINGS" "Z" (.int z0)) (hz0 : ¬ z0 = 0) (ga : n0 ≤ a1) (gd : n0 ≤ d1) (ned : t1 ≠ d1) :
  OwnM l Z h0 (⟨kS2, "append", "(Ljava/lang/String;)Ljava/lang/StringBuilder;"⟩ : MethodName) (Jvm.Cond.code (⟨kS2, "append", "(Ljava/lang/String;)Ljava/lang/StringBuilder;"⟩ : MethodName) jdk_67_method_7_code 2 (some (.object kS2)) :: ws) (RM 5 1 34 76) #[(.ref a1), (.ref x1)] (Qrm_sg_4_14_16 Z x1 t1 k1 xs0 xs1 xs2 xs3 a1 d1 kd xe0 xe1 xe2 xe3 xe4 xe5 xe6 xe7 xe8 xe9 xe10 xe11 xe12 xe13 z0 h0 n0) := by
 refine MetFree.of_bodySF (plainFor_of_name pn_7) hisR ?_
 intro p e s m args below meth c s₁ Bd hml0 hP hK
 obtain ⟨rfl, hZ, hh⟩ := hP
 have hx := Bd.exec
 have hby := Bd.bytes
 have hml : c.maxLocals = 2 := hml0
 have hown : s.vm.findClass kS2 = some m.cls := findClass_of_methodNamed Bd.named
 have hnm := (name_of_methodNamed Bd.named Bd.method).1
 have X0 : Stand p l e (RM 5 1 34 76) s m #[(.ref a1), (.ref x1)] below meth c s₁ [] 0 0 := Stand.of_body Bd
 have e0 : s₁.heap = h0 := by rw [← hh, Bd.state]; rfl
 have N0 := Fr.nil n0
 have pre0 : ∀ t, GO p e below s₁ (mkF m 0 #[.val (.ref a1), .val (.ref x1)] []) t → GO p e below s₁ (entryFrame m #[(.ref a1), (.ref x1)] 2) t := fun t k => castTop (ef_rm_sg_4_14_16 m a1 x1) k
 have lt_Esx1 := ltA Esx1.lt
 have lt_Fcx1 := ltA Fcx1.lt
 have lt_Fvx1 := ltA Fvx1.lt
 have lt_Vsx1 := ltA Vsx1.lt
 have lt_Eb := ltA Eb.lt
 have lt_Fbv := ltA Fbv.lt
 have lt_Fbc := ltA Fbc.lt
 have lt_Fbn := ltA Fbn.lt
 have lt_Vb := ltA Vb.lt
 -- pc 2: AbstractStringBuilder.append by rm_ag_4_14_16
 obtain ⟨_, _, ⟨T365, L365, k365, n365⟩, -, X365, ⟨Lc365, hQ365, l365, y365, z365⟩, st365⟩ := superBack X0 hx hZ (y := (⟨kS0, "append", "(Ljava/lang/String;)Ljava/lang/AbstractStringBuilder;"⟩ : MethodName)) hown (wd hw 100 rfl) (own_sameM (y := (⟨kS0, "append", "(Ljava/lang/String;)Ljava/lang/AbstractStringBuilder;"⟩ : MethodName)) (wd hw 101 rfl) (wd hw 120 rfl) rfl (by decide)) (wd hw 101 rfl) (wd hw 102 rfl) (by decide) (backOf (W := 0) (rm_ag_4_14_16 l Z a0 hw [] x1 t1 k1 xs0 xs1 xs2 xs3 a1 d1 kd xe0 xe1 xe2 xe3 xe4 xe5 xe6 xe7 xe8 xe9 xe10 xe11 xe12 xe13 z0 h0 n0 Z0 O0 Esx1 Fcx1 Fvx1 Vsx1 Eb Fbv Fbc Fbn Vb (by first | assumption | decide | omega) (by first | assumption | decide | omega) (by first | assumption | decide | omega) (by first | assumption | decide | omega) ned) hZ (wd hw 104 rfl) (wd hw 87 rfl) (by decide) (by decide)) e0 (Ins.self Eb) (g := (mkF m 2 #[.val (.ref a1), .val (.ref x1)] [(.ref x1), (.ref a1)])) rfl (by rw [hml]; rfl) (wd hw 104 rfl) (argsL := [(.ref x1)]) (rest := []) (lenOf pd_12 rfl) rfl (wz rfl) (hb hby d18_2) (fun _ _ => ⟨rfl, e0, (by decide : 0 + 1 ≤ _), (by decide : 0 + 34 ≤ _)⟩)
 dsimp only [Pt.U, Pt.locs, Pt.cells, Pt.slots] at X365 l365 y365 z365 st365 hQ365
 rw [l365, y365, z365] at X365
 obtain ⟨h365, e365⟩ : ∃ z, T365.heap = z := ⟨_, rfl⟩
 rw [e365] at hQ365
 obtain ⟨t_365, k_365, rfl, N365q, K365, p365_0, p365_1, p365_2, p365_3, p365_4, r365_0⟩ := hQ365
 have N365 := Fr.app N0 N365q
 have ne366 : a1 ≠ x1 := ne_exa Eb Esx1 (by decide)
 have ne367 : a1 ≠ d1 := Exa.neArv Eb Vb (wd hw 78 rfl)
 have ne368 : a1 ≠ t1 := Exa.neArv Eb Vsx1 (wd hw 78 rfl)
 have sz365 : h0.size ≤ h365.size := K365.1
 have nz365 := Nat.le_trans Z0 sz365
 have lt365_0 := ltA p365_0.lt
 have lt365_4 := ltA p365_4.lt
 obtain ⟨fs, hr, hrun, hended, hW, hsame⟩ := X365.leave (v := some (.ref a1)) (fun h => by rw [Bd.returns] at h; cases h)
 refine ⟨_, _, pre0 _ ?_, hrun, hended, _, _, rfl, ?_, ⟨_, rfl⟩, hW, hsame.mono (by decide) (by decide)⟩
 ·show GO p e below s₁ (mkF m 0 #[.val (.ref a1), .val (.ref x1)] []) _
  refine XS.aloadN X0.here hx rfl (hb hby d18_0) rfl rfl ?_
  show GO p e below s₁ (mkF m 1 #[.val (.ref a1), .val (.ref x1)] [(.ref a1)]) _
  refine XS.aloadN X0.here hx rfl (hb hby d18_1) rfl rfl ?_
  show GO p e below s₁ (mkF m 2 #[.val (.ref a1), .val (.ref x1)] [(.ref x1), (.ref a1)]) _
  refine st365.trans ?_
  show GO p e below T365 (mkF m 5 #[.val (.ref a1), .val (.ref x1)] [(.ref a1)]) _
  refine XS.pop X365.here hx rfl (hb hby d18_5) rfl rfl ?_
  show GO p e below T365 (mkF m 6 #[.val (.ref a1), .val (.ref x1)] []) _
  refine XS.aloadN X365.here hx rfl (hb hby d18_6) rfl rfl ?_
  show GO p e below T365 (mkF m 7 #[.val (.ref a1), .val (.ref x1)] [(.ref a1)]) _
  exact retOut X365 hx Bd.returns rfl (Or.inr (Or.inr (Or.inr (Or.inr ⟨rfl, rfl, rfl⟩)))) (hb hby d18_7) hr
 ·show Qrm_sg_4_14_16 Z x1 t1 k1 xs0 xs1 xs2 xs3 a1 d1 kd xe0 xe1 xe2 xe3 xe4 xe5 xe6 xe7 xe8 xe9 xe10 xe11 xe12 xe13 z0 h0 n0 _ T365.heap _
  rw [e365]
  exact ⟨t_365, k_365, rfl, N365, ((Keep.refl h0 [a1]).trans K365 (allS (P := fun x => x ∈ _ ∨ _) (Or.inl (List.mem_of_getElem? (i := 0) rfl)) all0)), p365_0, p365_1, p365_2, p365_3, p365_4, r365_0⟩
def Qrm_cl18 (Z : State)  (h0 : Heap) (n0 : Nat) (v : Option Value) (h : Heap) (L : List Loc) : Prop := v = none ∧ Fr n0 L ∧ h = h0
theorem ef_rm_cl18 (m : MethodId) (x0 : Int32) (x1 : Int32) : entryFrame m #[(.int x0), (.int x1)] 2 = mkF m 0 #[.val (.int x0), .val (.int x1)] [] := by first | rfl | (simp [entryFrame, mkF, argsToLocals, Value.category]; done)
theorem rm_cl18 (l : Launch) (Z : State) (a0 : Array Value) (hw : HW Z a0) (ws : List Jvm.Cond)  (h0 : Heap) (n0 : Nat) (Z0 : n0 ≤ h0.size) :
  OwnM l Z h0 (⟨"java/util/Arrays", "checkLength", "(II)V"⟩ : MethodName) (Jvm.Cond.code (⟨"java/util/Arrays", "checkLength", "(II)V"⟩ : MethodName) jdk_65_method_131_code 2 none :: ws) (RM 0 0 0 0) #[(.int 0), (.int 18)] (Qrm_cl18 Z  h0 n0) := by
 refine MetFree.of_bodySF (plainFor_of_name pn_8) hisR ?_
 intro p e s m args below meth c s₁ Bd hml0 hP hK
 obtain ⟨rfl, hZ, hh⟩ := hP
 have hx := Bd.exec
 have hby := Bd.bytes
 have hml : c.maxLocals = 2 := hml0
 have hown : s.vm.findClass "java/util/Arrays" = some m.cls := findClass_of_methodNamed Bd.named
 have hnm := (name_of_methodNamed Bd.named Bd.method).1
 have X0 : Stand p l e (RM 0 0 0 0) s m #[(.int 0), (.int 18)] below meth c s₁ [] 0 0 := Stand.of_body Bd
 have e0 : s₁.heap = h0 := by rw [← hh, Bd.state]; rfl
 have N0 := Fr.nil n0
 have pre0 : ∀ t, GO p e below s₁ (mkF m 0 #[.val (.int 0), .val (.int 18)] []) t → GO p e below s₁ (entryFrame m #[(.int 0), (.int 18)] 2) t := fun t k => castTop (ef_rm_cl18 m ((0 : Int32)) ((18 : Int32))) k
 obtain ⟨fs, hr, hrun, hended, hW, hsame⟩ := X0.leave (v := none) (fun _ => rfl)
 refine ⟨_, _, pre0 _ ?_, hrun, hended, _, _, rfl, ?_, ⟨_, rfl⟩, hW, hsame.mono (by decide) (by decide)⟩
 ·show GO p e below s₁ (mkF m 0 #[.val (.int 0), .val (.int 18)] []) _
  refine XS.iloadN X0.here hx rfl (hb hby d35_0) rfl ?_
  show GO p e below s₁ (mkF m 1 #[.val (.int 0), .val (.int 18)] [(.int 18)]) _
  refine XS.iloadN X0.here hx rfl (hb hby d35_1) rfl ?_
  show GO p e below s₁ (mkF m 2 #[.val (.int 0), .val (.int 18)] [(.int 0), (.int 18)]) _
  refine XS.icmpYes X0.here hx rfl (pc0 := 2) (pc' := 37) rfl (hb hby d35_2) rfl (flt ((by decide) : ¬ ((18 : Int32) < (0 : Int32)))).2.1 (by decide) (by decide) ?_
  show GO p e below s₁ (mkF m 37 #[.val (.int 0), .val (.int 18)] []) _
  exact X0.returnOut hx Bd.returns (hb hby d35_37) hr
 ·show Qrm_cl18 Z  h0 n0 _ s₁.heap _
  rw [e0]
  exact ⟨rfl, N0, rfl⟩
def Qrm_mi_34_18 (Z : State)  (h0 : Heap) (n0 : Nat) (v : Option Value) (h : Heap) (L : List Loc) : Prop := v = some (.int 18) ∧ Fr n0 L ∧ h = h0
theorem ef_rm_mi_34_18 (m : MethodId) (x0 : Int32) (x1 : Int32) : entryFrame m #[(.int x0), (.int x1)] 2 = mkF m 0 #[.val (.int x0), .val (.int x1)] [] := by first | rfl | (simp [entryFrame, mkF, argsToLocals, Value.category]; done)
theorem rm_mi_34_18 (l : Launch) (Z : State) (a0 : Array Value) (hw : HW Z a0) (ws : List Jvm.Cond)  (h0 : Heap) (n0 : Nat) (Z0 : n0 ≤ h0.size) :
  OwnM l Z h0 (⟨"java/lang/Math", "min", "(II)I"⟩ : MethodName) (Jvm.Cond.code (⟨"java/lang/Math", "min", "(II)I"⟩ : MethodName) jdk_29_method_69_code 2 (some .int) :: ws) (RM 0 0 0 0) #[(.int 34), (.int 18)] (Qrm_mi_34_18 Z  h0 n0) := by
 refine MetFree.of_bodySF (Jvm.Free.JP.mathPlain rfl (by decide +kernel)) hisR ?_
 intro p e s m args below meth c s₁ Bd hml0 hP hK
 obtain ⟨rfl, hZ, hh⟩ := hP
 have hx := Bd.exec
 have hby := Bd.bytes
 have hml : c.maxLocals = 2 := hml0
 have hown : s.vm.findClass "java/lang/Math" = some m.cls := findClass_of_methodNamed Bd.named
 have hnm := (name_of_methodNamed Bd.named Bd.method).1
 have X0 : Stand p l e (RM 0 0 0 0) s m #[(.int 34), (.int 18)] below meth c s₁ [] 0 0 := Stand.of_body Bd
 have e0 : s₁.heap = h0 := by rw [← hh, Bd.state]; rfl
 have N0 := Fr.nil n0
 have pre0 : ∀ t, GO p e below s₁ (mkF m 0 #[.val (.int 34), .val (.int 18)] []) t → GO p e below s₁ (entryFrame m #[(.int 34), (.int 18)] 2) t := fun t k => castTop (ef_rm_mi_34_18 m ((34 : Int32)) ((18 : Int32))) k
 obtain ⟨fs, hr, hrun, hended, hW, hsame⟩ := X0.leave (v := some (.int 18)) (fun h => by rw [Bd.returns] at h; cases h)
 refine ⟨_, _, pre0 _ ?_, hrun, hended, _, _, rfl, ?_, ⟨_, rfl⟩, hW, hsame.mono (by decide) (by decide)⟩
 ·show GO p e below s₁ (mkF m 0 #[.val (.int 34), .val (.int 18)] []) _
  refine XS.iloadN X0.here hx rfl (hb hby d36_0) rfl ?_
  show GO p e below s₁ (mkF m 1 #[.val (.int 34), .val (.int 18)] [(.int 34)]) _
  refine XS.iloadN X0.here hx rfl (hb hby d36_1) rfl ?_
  show GO p e below s₁ (mkF m 2 #[.val (.int 34), .val (.int 18)] [(.int 18), (.int 34)]) _
  refine XS.icmpYes X0.here hx rfl (pc0 := 2) (pc' := 9) rfl (hb hby d36_2) rfl (tlt ((by decide) : (18 : Int32) < (34 : Int32))).2.2.1 (by decide) (by decide) ?_
  show GO p e below s₁ (mkF m 9 #[.val (.int 34), .val (.int 18)] []) _
  refine XS.iloadN X0.here hx rfl (hb hby d36_9) rfl ?_
  show GO p e below s₁ (mkF m 10 #[.val (.int 34), .val (.int 18)] [(.int 18)]) _
  exact retI X0 hx Bd.returns (hb hby d36_10) hr
 ·show Qrm_mi_34_18 Z  h0 n0 _ s₁.heap _
  rw [e0]
  exact ⟨rfl, N0, rfl⟩
def Qrm_cb_18_34 (Z : State) (d1 : Addr) (kd : ClassId) (xe0 : Int32) (xe1 : Int32) (xe2 : Int32) (xe3 : Int32) (xe4 : Int32) (xe5 : Int32) (xe6 : Int32) (xe7 : Int32) (xe8 : Int32) (xe9 : Int32) (xe10 : Int32) (xe11 : Int32) (xe12 : Int32) (xe13 : Int32) (xe14 : Int32) (xe15 : Int32) (xe16 : Int32) (xe17 : Int32) (h0 : Heap) (n0 : Nat) (v : Option Value) (h : Heap) (L : List Loc) : Prop := ∃ t : Addr, ∃ k : ClassId, v = some (.ref t) ∧ Fr n0 L ∧ Keep h0 h [] ∧ Exa Z h t "[B" ∧ Arv Z h t k .byte (18 : Int32) [(.int xe0), (.int xe1), (.int xe2), (.int xe3), (.int xe4), (.int xe5), (.int xe6), (.int xe7), (.int xe8), (.int xe9), (.int xe10), (.int xe11), (.int xe12), (.int xe13), (.int xe14), (.int xe15), (.int xe16), (.int xe17)] (.int 0) ∧ h0.size ≤ t
theorem ef_rm_cb_18_34 (m : MethodId) (x0 : Addr) (x1 : Int32) (x2 : Int32) : entryFrame m #[(.ref x0), (.int x1), (.int x2)] 5 = mkF m 0 (la7 x0 x1 x2) [] := by first | rfl | (simp [entryFrame, mkF, argsToLocals, Value.category]; done)
theorem rm_cb_18_34 (l : Launch) (Z : State) (a0 : Array Value) (hw : HW Z a0) (ws : List Jvm.Cond) (d1 : Addr) (kd : ClassId) (xe0 : Int32) (xe1 : Int32) (xe2 : Int32) (xe3 : Int32) (xe4 : Int32) (xe5 : Int32) (xe6 : Int32) (xe7 : Int32) (xe8 : Int32) (xe9 : Int32) (xe10 : Int32) (xe11 : Int32) (xe12 : Int32) (xe13 : Int32) (xe14 : Int32) (xe15 : Int32) (xe16 : Int32) (xe17 : Int32) (h0 : Heap) (n0 : Nat) (Z0 : n0 ≤ h0.size) (Vd : Arv Z h0 d1 kd .byte (34 : Int32) [(.int xe0), (.int xe1), (.int xe2), (.int xe3), (.int xe4), (.int xe5), (.int xe6), (.int xe7), (.int xe8), (.int xe9), (.int xe10), (.int xe11), (.int xe12), (.int xe13), (.int xe14), (.int xe15), (.int xe16), (.int xe17), (.int 0), (.int 0), (.int 0), (.int 0), (.int 0), (.int 0), (.int 0), (.int 0), (.int 0), (.int 0), (.int 0), (.int 0), (.int 0), (.int 0), (.int 0), (.int 0)] (.int 0)) :
  OwnM l Z h0 (⟨"java/util/Arrays", "copyOfRangeByte", "([BII)[B"⟩ : MethodName) (Jvm.Cond.code (⟨"java/util/Arrays", "copyOfRangeByte", "([BII)[B"⟩ : MethodName) jdk_65_method_133_code 5 (some (.array .byte)) :: ws) (RM 1 1 18 18) #[(.ref d1), (.int 0), (.int 18)] (Qrm_cb_18_34 Z d1 kd xe0 xe1 xe2 xe3 xe4 xe5 xe6 xe7 xe8 xe9 xe10 xe11 xe12 xe13 xe14 xe15 xe16 xe17 h0 n0) := by
 refine MetFree.of_bodySF (plainFor_of_name pn_8) hisR ?_
 intro p e s m args below meth c s₁ Bd hml0 hP hK
 obtain ⟨rfl, hZ, hh⟩ := hP
 have hx := Bd.exec
 have hby := Bd.bytes
 have hml : c.maxLocals = 5 := hml0
 have hown : s.vm.findClass "java/util/Arrays" = some m.cls := findClass_of_methodNamed Bd.named
 have hnm := (name_of_methodNamed Bd.named Bd.method).1
 have X0 : Stand p l e (RM 1 1 18 18) s m #[(.ref d1), (.int 0), (.int 18)] below meth c s₁ [] 0 0 := Stand.of_body Bd
 have e0 : s₁.heap = h0 := by rw [← hh, Bd.state]; rfl
 have N0 := Fr.nil n0
 have pre0 : ∀ t, GO p e below s₁ (mkF m 0 (la7 d1 (0 : Int32) (18 : Int32)) []) t → GO p e below s₁ (entryFrame m #[(.ref d1), (.int 0), (.int 18)] 5) t := fun t k => castTop (ef_rm_cb_18_34 m d1 ((0 : Int32)) ((18 : Int32))) k
 have lt_Vd := ltA Vd.lt
 -- pc 2: Arrays.checkLength by rm_cl18
 obtain ⟨_, _, ⟨T369, L369, k369, n369⟩, -, X369, ⟨Lc369, hQ369, l369, y369, z369⟩, st369⟩ := Jvm.LawKit.callS X0 hx (y := (⟨"java/util/Arrays", "checkLength", "(II)V"⟩ : MethodName)) hown (mvT hZ (wd hw 182 rfl)) (mvT hZ (wd hw 183 rfl)) (mvT hZ (wd hw 177 rfl)) (mvT hZ (wd hw 184 rfl)) (by decide) (backOf (W := 0) (rm_cl18 l Z a0 hw []  h0 n0 Z0) hZ (wd hw 184 rfl) (wd hw 177 rfl) (by decide) (by decide)) (g := (mkF m 2 (la7 d1 (0 : Int32) (18 : Int32)) [(.int 18), (.int 0)])) rfl (by rw [hml]; rfl) (argsL := [(.int 0), (.int 18)]) (rest := []) (lenOf pd_13 rfl) rfl (wz rfl) (hb hby d34_2) (fun _ _ => ⟨rfl, e0, (by decide : 0 + 0 ≤ _), (by decide : 0 + 0 ≤ _)⟩)
 dsimp only [Pt.U, Pt.locs, Pt.cells, Pt.slots] at X369 l369 y369 z369 st369 hQ369
 rw [l369, y369, z369] at X369
 obtain ⟨rfl, N369q, e369⟩ := hQ369
 have N369 := Fr.app N0 N369q
 obtain ⟨T370, h370, k370, X370, e370, E370, A370, Q370, st370⟩ := newPE (ad := "[B") X369 hx hZ (wd hw 19 rfl) e369 (g := (mkF m 10 (la8 d1 (0 : Int32) (18 : Int32) (18 : Int32)) [(.int 18)])) rfl (hb hby d34_10) rfl (by decide) (cap := 18) (by decide) (by decide) (by decide) (by decide) (by decide)
 obtain ⟨b370, g370⟩ : ∃ z, z = h0.size := ⟨_, rfl⟩
 rw [← g370] at A370 st370 Q370
 have sz370 : h0.size ≤ h370.size := E370.1
 have nz370 := Nat.le_trans Z0 sz370
 have lt370 := ltA A370.lt
 have V370 : Arv Z h370 b370 k370 .byte (18 : Int32) [(.int 0), (.int 0), (.int 0), (.int 0), (.int 0), (.int 0), (.int 0), (.int 0), (.int 0), (.int 0), (.int 0), (.int 0), (.int 0), (.int 0), (.int 0), (.int 0), (.int 0), (.int 0)] (.int 0) := (Arv.new A370 (by decide)).pad (pad_rep [] (.int 0) 18)
 have f371 : Arv Z h370 d1 kd .byte (34 : Int32) [(.int xe0), (.int xe1), (.int xe2), (.int xe3), (.int xe4), (.int xe5), (.int xe6), (.int xe7), (.int xe8), (.int xe9), (.int xe10), (.int xe11), (.int xe12), (.int xe13), (.int xe14), (.int xe15), (.int xe16), (.int xe17), (.int 0), (.int 0), (.int 0), (.int 0), (.int 0), (.int 0), (.int 0), (.int 0), (.int 0), (.int 0), (.int 0), (.int 0), (.int 0), (.int 0), (.int 0), (.int 0)] (.int 0) := (Vd.ext E370)
 obtain ⟨cl372, Ar372, -, S372, M372, -, -⟩ := id f371
 -- pc 24: Math.min by rm_mi_34_18
 obtain ⟨_, _, ⟨T373, L373, k373, n373⟩, -, X373, ⟨Lc373, hQ373, l373, y373, z373⟩, st373⟩ := Jvm.LawKit.callS X370 hx (y := (⟨"java/lang/Math", "min", "(II)I"⟩ : MethodName)) hown (mvT hZ (wd hw 185 rfl)) (mvT hZ (wd hw 186 rfl)) (mvT hZ (wd hw 187 rfl)) (mvT hZ (wd hw 188 rfl)) (by decide) (backOf (W := 4) (rm_mi_34_18 l Z a0 hw []  h370 n0 nz370) hZ (wd hw 188 rfl) (wd hw 187 rfl) (by decide) (by decide)) (g := (mkF m 24 (la9 d1 (0 : Int32) (18 : Int32) (18 : Int32) b370) [(.int 18), (.int 34), (.int 0), (.ref b370), (.int 0), (.ref d1)])) rfl (by rw [hml]; rfl) (argsL := [(.int 34), (.int 18)]) (rest := [(.int 0), (.ref b370), (.int 0), (.ref d1)]) (lenOf pd_14 rfl) rfl (wz rfl) (hb hby d34_24) (fun _ _ => ⟨rfl, e370, (by decide : 1 + 0 ≤ _), (by decide : 18 + 0 ≤ _)⟩)
 dsimp only [Pt.U, Pt.locs, Pt.cells, Pt.slots] at X373 l373 y373 z373 st373 hQ373
 rw [l373, y373, z373] at X373
 obtain ⟨rfl, N373q, e373⟩ := hQ373
 have N373 := Fr.app N369 N373q
 obtain ⟨T374, h374, L374, X374, e374, N374, K374, A374, st374⟩ := cpA X373 hx hZ hown (wd hw 189 rfl) (wd hw 141 rfl) (wd hw 139 rfl) (wd hw 140 rfl) e373 f371 V370 (us := [(.int xe0), (.int xe1), (.int xe2), (.int xe3), (.int xe4), (.int xe5), (.int xe6), (.int xe7), (.int xe8), (.int xe9), (.int xe10), (.int xe11), (.int xe12), (.int xe13), (.int xe14), (.int xe15), (.int xe16), (.int xe17)]) (Or.inl ⟨rfl, rfl⟩) (by decide) (by decide) (by decide) (by decide) (by decide) rfl (Nat.le_of_ble_eq_true rfl) N373 (by omega) (g := (mkF m 27 (la9 d1 (0 : Int32) (18 : Int32) (18 : Int32) b370) [(.int 18), (.int 0), (.ref b370), (.int 0), (.ref d1)])) rfl (by rw [hml]; rfl) rfl (hb hby d34_27) (by decide) (W := 0) (wz rfl) (by decide)
 have sz374 : h370.size ≤ h374.size := K374.1
 have nz374 := Nat.le_trans nz370 sz374
 have V374 : Arv Z h374 b370 k370 .byte (18 : Int32) [(.int xe0), (.int xe1), (.int xe2), (.int xe3), (.int xe4), (.int xe5), (.int xe6), (.int xe7), (.int xe8), (.int xe9), (.int xe10), (.int xe11), (.int xe12), (.int xe13), (.int xe14), (.int xe15), (.int xe16), (.int xe17)] (.int 0) := A374
 have f375 : Exa Z h374 b370 "[B" := (Q370.keep K374)
 obtain ⟨fs, hr, hrun, hended, hW, hsame⟩ := X374.leave (v := some (.ref b370)) (fun h => by rw [Bd.returns] at h; cases h)
 refine ⟨_, _, pre0 _ ?_, hrun, hended, _, _, rfl, ?_, ⟨_, rfl⟩, hW, hsame.mono (by decide) (by decide)⟩
 ·show GO p e below s₁ (mkF m 0 (la7 d1 (0 : Int32) (18 : Int32)) []) _
  refine XS.iloadN X0.here hx rfl (hb hby d34_0) rfl ?_
  show GO p e below s₁ (mkF m 1 (la7 d1 (0 : Int32) (18 : Int32)) [(.int 0)]) _
  refine XS.iloadN X0.here hx rfl (hb hby d34_1) rfl ?_
  show GO p e below s₁ (mkF m 2 (la7 d1 (0 : Int32) (18 : Int32)) [(.int 18), (.int 0)]) _
  refine st369 _ ?_
  show GO p e below T369 (mkF m 5 (la7 d1 (0 : Int32) (18 : Int32)) []) _
  refine XS.iloadN X369.here hx rfl (hb hby d34_5) rfl ?_
  show GO p e below T369 (mkF m 6 (la7 d1 (0 : Int32) (18 : Int32)) [(.int 18)]) _
  refine XS.iloadN X369.here hx rfl (hb hby d34_6) rfl ?_
  show GO p e below T369 (mkF m 7 (la7 d1 (0 : Int32) (18 : Int32)) [(.int 0), (.int 18)]) _
  refine XS.isub X369.here hx rfl (hb hby d34_7) rfl ?_
  rw [show ((18 : Int32) - (0 : Int32)) = (18 : Int32) from by decide]
  show GO p e below T369 (mkF m 8 (la7 d1 (0 : Int32) (18 : Int32)) [(.int 18)]) _
  refine XS.istoreN X369.here hx rfl (hb hby d34_8) rfl (l' := (la8 d1 (0 : Int32) (18 : Int32) (18 : Int32))) rfl ?_
  show GO p e below T369 (mkF m 9 (la8 d1 (0 : Int32) (18 : Int32) (18 : Int32)) []) _
  refine XS.iloadN X369.here hx rfl (hb hby d34_9) rfl ?_
  show GO p e below T369 (mkF m 10 (la8 d1 (0 : Int32) (18 : Int32) (18 : Int32)) [(.int 18)]) _
  refine st370 _ ?_
  show GO p e below T370 (mkF m 12 (la8 d1 (0 : Int32) (18 : Int32) (18 : Int32)) [(.ref b370)]) _
  refine XS.astore X370.here hx rfl (hb hby d34_12) rfl rfl (l' := (la9 d1 (0 : Int32) (18 : Int32) (18 : Int32) b370)) rfl ?_
  show GO p e below T370 (mkF m 14 (la9 d1 (0 : Int32) (18 : Int32) (18 : Int32) b370) []) _
  refine XS.aloadN X370.here hx rfl (hb hby d34_14) rfl rfl ?_
  show GO p e below T370 (mkF m 15 (la9 d1 (0 : Int32) (18 : Int32) (18 : Int32) b370) [(.ref d1)]) _
  refine XS.iloadN X370.here hx rfl (hb hby d34_15) rfl ?_
  show GO p e below T370 (mkF m 16 (la9 d1 (0 : Int32) (18 : Int32) (18 : Int32) b370) [(.int 0), (.ref d1)]) _
  refine XS.aload X370.here hx rfl (hb hby d34_16) rfl rfl ?_
  show GO p e below T370 (mkF m 18 (la9 d1 (0 : Int32) (18 : Int32) (18 : Int32) b370) [(.ref b370), (.int 0), (.ref d1)]) _
  refine XS.iconst X370.here hx rfl (hb hby d34_18) ?_
  show GO p e below T370 (mkF m 19 (la9 d1 (0 : Int32) (18 : Int32) (18 : Int32) b370) [(.int 0), (.ref b370), (.int 0), (.ref d1)]) _
  refine XS.aloadN X370.here hx rfl (hb hby d34_19) rfl rfl ?_
  show GO p e below T370 (mkF m 20 (la9 d1 (0 : Int32) (18 : Int32) (18 : Int32) b370) [(.ref d1), (.int 0), (.ref b370), (.int 0), (.ref d1)]) _
  refine X370.arraylength hx (by rw [e370]; exact Ar372.1) (State.isArrayOf_alike hZ.alike Ar372.2.1) (g := (mkF m 20 (la9 d1 (0 : Int32) (18 : Int32) (18 : Int32) b370) [(.ref d1), (.int 0), (.ref b370), (.int 0), (.ref d1)])) rfl rfl (hb hby d34_20) _ ?_
  rw [len_of S372 M372]
  show GO p e below T370 (mkF m 21 (la9 d1 (0 : Int32) (18 : Int32) (18 : Int32) b370) [(.int 34), (.int 0), (.ref b370), (.int 0), (.ref d1)]) _
  refine XS.iloadN X370.here hx rfl (hb hby d34_21) rfl ?_
  show GO p e below T370 (mkF m 22 (la9 d1 (0 : Int32) (18 : Int32) (18 : Int32) b370) [(.int 0), (.int 34), (.int 0), (.ref b370), (.int 0), (.ref d1)]) _
  refine XS.isub X370.here hx rfl (hb hby d34_22) rfl ?_
  rw [show ((34 : Int32) - (0 : Int32)) = (34 : Int32) from by decide]
  show GO p e below T370 (mkF m 23 (la9 d1 (0 : Int32) (18 : Int32) (18 : Int32) b370) [(.int 34), (.int 0), (.ref b370), (.int 0), (.ref d1)]) _
  refine XS.iloadN X370.here hx rfl (hb hby d34_23) rfl ?_
  show GO p e below T370 (mkF m 24 (la9 d1 (0 : Int32) (18 : Int32) (18 : Int32) b370) [(.int 18), (.int 34), (.int 0), (.ref b370), (.int 0), (.ref d1)]) _
  refine st373 _ ?_
  show GO p e below T373 (mkF m 27 (la9 d1 (0 : Int32) (18 : Int32) (18 : Int32) b370) [(.int 18), (.int 0), (.ref b370), (.int 0), (.ref d1)]) _
  refine st374 _ ?_
  show GO p e below T374 (mkF m 30 (la9 d1 (0 : Int32) (18 : Int32) (18 : Int32) b370) []) _
  refine XS.aload X374.here hx rfl (hb hby d34_30) rfl rfl ?_
  show GO p e below T374 (mkF m 32 (la9 d1 (0 : Int32) (18 : Int32) (18 : Int32) b370) [(.ref b370)]) _
  exact retOut X374 hx Bd.returns rfl (Or.inr (Or.inr (Or.inr (Or.inr ⟨rfl, rfl, rfl⟩)))) (hb hby d34_32) hr
 ·show Qrm_cb_18_34 Z d1 kd xe0 xe1 xe2 xe3 xe4 xe5 xe6 xe7 xe8 xe9 xe10 xe11 xe12 xe13 xe14 xe15 xe16 xe17 h0 n0 _ T374.heap _
  rw [e374]
  exact ⟨b370, k370, rfl, N374, (((Keep.refl h0 []).ext E370).trans K374 (allS (P := fun x => x ∈ _ ∨ _) (Or.inr (by omega)) all0)), f375, V374, (by omega)⟩
def Qrm_cr_18_34 (Z : State) (d1 : Addr) (kd : ClassId) (xe0 : Int32) (xe1 : Int32) (xe2 : Int32) (xe3 : Int32) (xe4 : Int32) (xe5 : Int32) (xe6 : Int32) (xe7 : Int32) (xe8 : Int32) (xe9 : Int32) (xe10 : Int32) (xe11 : Int32) (xe12 : Int32) (xe13 : Int32) (xe14 : Int32) (xe15 : Int32) (xe16 : Int32) (xe17 : Int32) (h0 : Heap) (n0 : Nat) (v : Option Value) (h : Heap) (L : List Loc) : Prop := ∃ t : Addr, ∃ k : ClassId, v = some (.ref t) ∧ Fr n0 L ∧ Keep h0 h [] ∧ Exa Z h t "[B" ∧ Arv Z h t k .byte (18 : Int32) [(.int xe0), (.int xe1), (.int xe2), (.int xe3), (.int xe4), (.int xe5), (.int xe6), (.int xe7), (.int xe8), (.int xe9), (.int xe10), (.int xe11), (.int xe12), (.int xe13), (.int xe14), (.int xe15), (.int xe16), (.int xe17)] (.int 0) ∧ h0.size ≤ t
theorem ef_rm_cr_18_34 (m : MethodId) (x0 : Addr) (x1 : Int32) (x2 : Int32) : entryFrame m #[(.ref x0), (.int x1), (.int x2)] 3 = mkF m 0 (la3 x0 x1 x2) [] := by first | rfl | (simp [entryFrame, mkF, argsToLocals, Value.category]; done)
theorem rm_cr_18_34 (l : Launch) (Z : State) (a0 : Array Value) (hw : HW Z a0) (ws : List Jvm.Cond) (d1 : Addr) (kd : ClassId) (xe0 : Int32) (xe1 : Int32) (xe2 : Int32) (xe3 : Int32) (xe4 : Int32) (xe5 : Int32) (xe6 : Int32) (xe7 : Int32) (xe8 : Int32) (xe9 : Int32) (xe10 : Int32) (xe11 : Int32) (xe12 : Int32) (xe13 : Int32) (xe14 : Int32) (xe15 : Int32) (xe16 : Int32) (xe17 : Int32) (h0 : Heap) (n0 : Nat) (Z0 : n0 ≤ h0.size) (Vd : Arv Z h0 d1 kd .byte (34 : Int32) [(.int xe0), (.int xe1), (.int xe2), (.int xe3), (.int xe4), (.int xe5), (.int xe6), (.int xe7), (.int xe8), (.int xe9), (.int xe10), (.int xe11), (.int xe12), (.int xe13), (.int xe14), (.int xe15), (.int xe16), (.int xe17), (.int 0), (.int 0), (.int 0), (.int 0), (.int 0), (.int 0), (.int 0), (.int 0), (.int 0), (.int 0), (.int 0), (.int 0), (.int 0), (.int 0), (.int 0), (.int 0)] (.int 0)) :
  OwnM l Z h0 (⟨"java/util/Arrays", "copyOfRange", "([BII)[B"⟩ : MethodName) (Jvm.Cond.code (⟨"java/util/Arrays", "copyOfRange", "([BII)[B"⟩ : MethodName) jdk_65_method_132_code 3 (some (.array .byte)) :: ws) (RM 2 1 18 34) #[(.ref d1), (.int 0), (.int 18)] (Qrm_cr_18_34 Z d1 kd xe0 xe1 xe2 xe3 xe4 xe5 xe6 xe7 xe8 xe9 xe10 xe11 xe12 xe13 xe14 xe15 xe16 xe17 h0 n0) := by
 refine MetFree.of_bodySF (plainFor_of_name pn_8) hisR ?_
 intro p e s m args below meth c s₁ Bd hml0 hP hK
 obtain ⟨rfl, hZ, hh⟩ := hP
 have hx := Bd.exec
 have hby := Bd.bytes
 have hml : c.maxLocals = 3 := hml0
 have hown : s.vm.findClass "java/util/Arrays" = some m.cls := findClass_of_methodNamed Bd.named
 have hnm := (name_of_methodNamed Bd.named Bd.method).1
 have X0 : Stand p l e (RM 2 1 18 34) s m #[(.ref d1), (.int 0), (.int 18)] below meth c s₁ [] 0 0 := Stand.of_body Bd
 have e0 : s₁.heap = h0 := by rw [← hh, Bd.state]; rfl
 have N0 := Fr.nil n0
 have pre0 : ∀ t, GO p e below s₁ (mkF m 0 (la3 d1 (0 : Int32) (18 : Int32)) []) t → GO p e below s₁ (entryFrame m #[(.ref d1), (.int 0), (.int 18)] 3) t := fun t k => castTop (ef_rm_cr_18_34 m d1 ((0 : Int32)) ((18 : Int32))) k
 have lt_Vd := ltA Vd.lt
 obtain ⟨cl376, Ar376, -, S376, M376, -, -⟩ := id Vd
 -- pc 13: Arrays.copyOfRangeByte by rm_cb_18_34
 obtain ⟨_, _, ⟨T377, L377, k377, n377⟩, -, X377, ⟨Lc377, hQ377, l377, y377, z377⟩, st377⟩ := Jvm.LawKit.callS X0 hx (y := (⟨"java/util/Arrays", "copyOfRangeByte", "([BII)[B"⟩ : MethodName)) hown (mvT hZ (wd hw 179 rfl)) (mvT hZ (wd hw 180 rfl)) (mvT hZ (wd hw 177 rfl)) (mvT hZ (wd hw 181 rfl)) (by decide) (backOf (W := 0) (rm_cb_18_34 l Z a0 hw [] d1 kd xe0 xe1 xe2 xe3 xe4 xe5 xe6 xe7 xe8 xe9 xe10 xe11 xe12 xe13 xe14 xe15 xe16 xe17 h0 n0 Z0 Vd) hZ (wd hw 181 rfl) (wd hw 177 rfl) (by decide) (by decide)) (g := (mkF m 13 (la3 d1 (0 : Int32) (18 : Int32)) [(.int 18), (.int 0), (.ref d1)])) rfl (by rw [hml]; rfl) (argsL := [(.ref d1), (.int 0), (.int 18)]) (rest := []) (lenOf pd_15 rfl) rfl (wz rfl) (hb hby d33_13) (fun _ _ => ⟨rfl, e0, (by decide : 0 + 1 ≤ _), (by decide : 0 + 18 ≤ _)⟩)
 dsimp only [Pt.U, Pt.locs, Pt.cells, Pt.slots] at X377 l377 y377 z377 st377 hQ377
 rw [l377, y377, z377] at X377
 obtain ⟨h377, e377⟩ : ∃ z, T377.heap = z := ⟨_, rfl⟩
 rw [e377] at hQ377
 obtain ⟨t_377, k_377, rfl, N377q, K377, p377_0, p377_1, r377_0⟩ := hQ377
 have N377 := Fr.app N0 N377q
 have sz377 : h0.size ≤ h377.size := K377.1
 have nz377 := Nat.le_trans Z0 sz377
 have lt377_0 := ltA p377_0.lt
 have lt377_1 := ltA p377_1.lt
 obtain ⟨fs, hr, hrun, hended, hW, hsame⟩ := X377.leave (v := some (.ref t_377)) (fun h => by rw [Bd.returns] at h; cases h)
 refine ⟨_, _, pre0 _ ?_, hrun, hended, _, _, rfl, ?_, ⟨_, rfl⟩, hW, hsame.mono (by decide) (by decide)⟩
 ·show GO p e below s₁ (mkF m 0 (la3 d1 (0 : Int32) (18 : Int32)) []) _
  refine XS.iloadN X0.here hx rfl (hb hby d33_0) rfl ?_
  show GO p e below s₁ (mkF m 1 (la3 d1 (0 : Int32) (18 : Int32)) [(.int 0)]) _
  refine XS.ifNo X0.here hx rfl (hb hby d33_1) rfl ((if0 _ _).trans (teq (rfl : (0 : Int32) = (0 : Int32))).2) ?_
  show GO p e below s₁ (mkF m 4 (la3 d1 (0 : Int32) (18 : Int32)) []) _
  refine XS.iloadN X0.here hx rfl (hb hby d33_4) rfl ?_
  show GO p e below s₁ (mkF m 5 (la3 d1 (0 : Int32) (18 : Int32)) [(.int 18)]) _
  refine XS.aloadN X0.here hx rfl (hb hby d33_5) rfl rfl ?_
  show GO p e below s₁ (mkF m 6 (la3 d1 (0 : Int32) (18 : Int32)) [(.ref d1), (.int 18)]) _
  refine X0.arraylength hx (by rw [e0]; exact Ar376.1) (State.isArrayOf_alike hZ.alike Ar376.2.1) (g := (mkF m 6 (la3 d1 (0 : Int32) (18 : Int32)) [(.ref d1), (.int 18)])) rfl rfl (hb hby d33_6) _ ?_
  rw [len_of S376 M376]
  show GO p e below s₁ (mkF m 7 (la3 d1 (0 : Int32) (18 : Int32)) [(.int 34), (.int 18)]) _
  refine XS.icmpNo X0.here hx rfl (hb hby d33_7) rfl (feq ((by decide) : ¬ ((18 : Int32) = (34 : Int32)))).1 ?_
  show GO p e below s₁ (mkF m 10 (la3 d1 (0 : Int32) (18 : Int32)) []) _
  refine XS.aloadN X0.here hx rfl (hb hby d33_10) rfl rfl ?_
  show GO p e below s₁ (mkF m 11 (la3 d1 (0 : Int32) (18 : Int32)) [(.ref d1)]) _
  refine XS.iloadN X0.here hx rfl (hb hby d33_11) rfl ?_
  show GO p e below s₁ (mkF m 12 (la3 d1 (0 : Int32) (18 : Int32)) [(.int 0), (.ref d1)]) _
  refine XS.iloadN X0.here hx rfl (hb hby d33_12) rfl ?_
  show GO p e below s₁ (mkF m 13 (la3 d1 (0 : Int32) (18 : Int32)) [(.int 18), (.int 0), (.ref d1)]) _
  refine st377 _ ?_
  show GO p e below T377 (mkF m 16 (la3 d1 (0 : Int32) (18 : Int32)) [(.ref t_377)]) _
  exact retOut X377 hx Bd.returns rfl (Or.inr (Or.inr (Or.inr (Or.inr ⟨rfl, rfl, rfl⟩)))) (hb hby d33_16) hr
 ·show Qrm_cr_18_34 Z d1 kd xe0 xe1 xe2 xe3 xe4 xe5 xe6 xe7 xe8 xe9 xe10 xe11 xe12 xe13 xe14 xe15 xe16 xe17 h0 n0 _ T377.heap _
  rw [e377]
  exact ⟨t_377, k_377, rfl, N377, ((Keep.refl h0 []).trans K377 all0), p377_0, p377_1, r377_0⟩
def Qrm_si2_18_34 (Z : State) (x1 : Addr) (u1 : Value) (u2 : Value) (a1 : Addr) (d1 : Addr) (kd : ClassId) (xe0 : Int32) (xe1 : Int32) (xe2 : Int32) (xe3 : Int32) (xe4 : Int32) (xe5 : Int32) (xe6 : Int32) (xe7 : Int32) (xe8 : Int32) (xe9 : Int32) (xe10 : Int32) (xe11 : Int32) (xe12 : Int32) (xe13 : Int32) (xe14 : Int32) (xe15 : Int32) (xe16 : Int32) (xe17 : Int32) (z0 : Int32) (h0 : Heap) (n0 : Nat) (v : Option Value) (h : Heap) (L : List Loc) : Prop := ∃ t : Addr, ∃ k : ClassId, v = none ∧ Fr n0 L ∧ Keep h0 h [x1] ∧ Exa Z h x1 kS1 ∧ Fld Z h x1 kS1 "coder" "B" (.int 0) ∧ Fld Z h x1 kS1 "value" "[B" (.ref t) ∧ Exa Z h t "[B" ∧ Arv Z h t k .byte (18 : Int32) [(.int xe0), (.int xe1), (.int xe2), (.int xe3), (.int xe4), (.int xe5), (.int xe6), (.int xe7), (.int xe8), (.int xe9), (.int xe10), (.int xe11), (.int xe12), (.int xe13), (.int xe14), (.int xe15), (.int xe16), (.int xe17)] (.int 0) ∧ h0.size ≤ t
theorem ef_rm_si2_18_34 (m : MethodId) (x0 : Addr) (x1 : Addr) : entryFrame m #[(.ref x0), (.ref x1), .null] 5 = mkF m 0 (la10 x0 x1) [] := by first | rfl | (simp [entryFrame, mkF, argsToLocals, Value.category]; done)
theorem rm_si2_18_34 (l : Launch) (Z : State) (a0 : Array Value) (hw : HW Z a0) (ws : List Jvm.Cond) (x1 : Addr) (u1 : Value) (u2 : Value) (a1 : Addr) (d1 : Addr) (kd : ClassId) (xe0 : Int32) (xe1 : Int32) (xe2 : Int32) (xe3 : Int32) (xe4 : Int32) (xe5 : Int32) (xe6 : Int32) (xe7 : Int32) (xe8 : Int32) (xe9 : Int32) (xe10 : Int32) (xe11 : Int32) (xe12 : Int32) (xe13 : Int32) (xe14 : Int32) (xe15 : Int32) (xe16 : Int32) (xe17 : Int32) (z0 : Int32) (h0 : Heap) (n0 : Nat) (Z0 : n0 ≤ h0.size) (O0 : Old Z n0 h0) (Es : Exa Z h0 x1 kS1) (Fv1 : Fld Z h0 x1 kS1 "value" "[B" u1) (Fc1 : Fld Z h0 x1 kS1 "coder" "B" u2) (Eb : Exa Z h0 a1 kS2) (Fbv : Fld Z h0 a1 kS0 "value" "[B" (.ref d1)) (Fbc : Fld Z h0 a1 kS0 "coder" "B" (.int 0)) (Fbn : Fld Z h0 a1 kS0 "count" "I" (.int 18)) (Vb : Arv Z h0 d1 kd .byte (34 : Int32) [(.int xe0), (.int xe1), (.int xe2), (.int xe3), (.int xe4), (.int xe5), (.int xe6), (.int xe7), (.int xe8), (.int xe9), (.int xe10), (.int xe11), (.int xe12), (.int xe13), (.int xe14), (.int xe15), (.int xe16), (.int xe17), (.int 0), (.int 0), (.int 0), (.int 0), (.int 0), (.int 0), (.int 0), (.int 0), (.int 0), (.int 0), (.int 0), (.int 0), (.int 0), (.int 0), (.int 0), (.int 0)] (.int 0)) (SZc : Sta Z Z.heap kS1 "COMPACT_STRINGS" "Z" (.int z0)) (hz0 : ¬ z0 = 0) (gx : n0 ≤ x1) :
  OwnM l Z h0 (⟨kS1, "<init>", "(Ljava/lang/AbstractStringBuilder;Ljava/lang/Void;)V"⟩ : MethodName) (Jvm.Cond.code (⟨kS1, "<init>", "(Ljava/lang/AbstractStringBuilder;Ljava/lang/Void;)V"⟩ : MethodName) jdk_42_method_150_code 5 none :: ws) (RM 3 1 18 49) #[(.ref x1), (.ref a1), .null] (Qrm_si2_18_34 Z x1 u1 u2 a1 d1 kd xe0 xe1 xe2 xe3 xe4 xe5 xe6 xe7 xe8 xe9 xe10 xe11 xe12 xe13 xe14 xe15 xe16 xe17 z0 h0 n0) := by
 refine MetFree.of_bodySF (plainFor_of_name pn_1) hisR ?_
 intro p e s m args below meth c s₁ Bd hml0 hP hK
 obtain ⟨rfl, hZ, hh⟩ := hP
 have hx := Bd.exec
 have hby := Bd.bytes
 have hml : c.maxLocals = 5 := hml0
 have hown : s.vm.findClass kS1 = some m.cls := findClass_of_methodNamed Bd.named
 have hnm := (name_of_methodNamed Bd.named Bd.method).1
 have X0 : Stand p l e (RM 3 1 18 49) s m #[(.ref x1), (.ref a1), .null] below meth c s₁ [] 0 0 := Stand.of_body Bd
 have e0 : s₁.heap = h0 := by rw [← hh, Bd.state]; rfl
 have N0 := Fr.nil n0
 have pre0 : ∀ t, GO p e below s₁ (mkF m 0 (la10 x1 a1) []) t → GO p e below s₁ (entryFrame m #[(.ref x1), (.ref a1), .null] 5) t := fun t k => castTop (ef_rm_si2_18_34 m x1 a1) k
 have lt_Es := ltA Es.lt
 have lt_Fv1 := ltA Fv1.lt
 have lt_Fc1 := ltA Fc1.lt
 have lt_Eb := ltA Eb.lt
 have lt_Fbv := ltA Fbv.lt
 have lt_Fbc := ltA Fbc.lt
 have lt_Fbn := ltA Fbn.lt
 have lt_Vb := ltA Vb.lt
 obtain ⟨T378, X378, e378, st378⟩ := initO X0 hx hZ hown (wd hw 11 rfl) (wd hw 12 rfl) (wd hw 13 rfl) e0 (g := (mkF m 1 (la10 x1 a1) [(.ref x1)])) rfl (by rw [hml]; rfl) rfl (hb hby d28_1) (by decide) (W := 0) (wz rfl) (by decide)
 -- pc 5: AbstractStringBuilder.getValue by rm_gv
 obtain ⟨cq379, kq379, q379a, q379b, q379c⟩ := isOf hZ e378 Eb
 obtain ⟨_, _, ⟨T379, L379, k379, n379⟩, -, X379, ⟨Lc379, hQ379, l379, y379, z379⟩, st379⟩ := X378.virtualBack hx (y := (⟨kS0, "getValue", "()[B"⟩ : MethodName)) (z := (⟨kS0, "getValue", "()[B"⟩ : MethodName)) hown (mvT hZ (wd hw 157 rfl)) (mvT hZ (wd hw 158 rfl)) (notFace_of_selects (args := #[]) (mvT hZ (wd hw 160 rfl))) (mvT hZ (wd hw 160 rfl)) (mvT hZ (wd hw 159 rfl)) (by decide) (backOf (W := 0) (rm_gv l Z a0 hw [] a1 d1 h0 n0 Z0 Fbv) hZ (wd hw 161 rfl) (wd hw 87 rfl) (by decide) (by decide)) q379a q379c (g := (mkF m 5 (la10 x1 a1) [(.ref a1)])) rfl (by rw [hml]; rfl) (Steps.refl _) (argsL := []) (rest := []) (lenOf pd_16 rfl) rfl (wz rfl) (hb hby d28_5) (fun _ _ => ⟨rfl, e378, (by decide : 0 + 0 ≤ _), (by decide : 0 + 0 ≤ _)⟩)
 dsimp only [Pt.U, Pt.locs, Pt.cells, Pt.slots] at X379 l379 y379 z379 st379 hQ379
 rw [l379, y379, z379] at X379
 obtain ⟨rfl, N379q, e379⟩ := hQ379
 have N379 := Fr.app N0 N379q
 -- pc 10: StringBuilder.length by rm_bl
 obtain ⟨cq380, kq380, q380a, q380b, q380c⟩ := isOf hZ e379 Eb
 obtain ⟨_, _, ⟨T380, L380, k380, n380⟩, -, X380, ⟨Lc380, hQ380, l380, y380, z380⟩, st380⟩ := X379.virtualBack hx (y := (⟨kS0, "length", "()I"⟩ : MethodName)) (z := (⟨kS2, "length", "()I"⟩ : MethodName)) hown (mvT hZ (wd hw 162 rfl)) (mvT hZ (wd hw 163 rfl)) (own_nf (args := #[]) (mvT hZ (wd hw 120 rfl)) rfl) (mvT hZ (wd hw 165 rfl)) (mvT hZ (wd hw 166 rfl)) (by decide) (backOf (W := 0) (rm_bl l Z a0 hw [] a1 (18 : Int32) h0 n0 Z0 Eb Fbn) hZ (wd hw 167 rfl) (wd hw 79 rfl) (by decide) (by decide)) q380a q380c (g := (mkF m 10 (la11 x1 a1 d1) [(.ref a1)])) rfl (by rw [hml]; rfl) (Steps.refl _) (argsL := []) (rest := []) (lenOf pd_10 rfl) rfl (wz rfl) (hb hby d28_10) (fun _ _ => ⟨rfl, e379, (by decide : 0 + 0 ≤ _), (by decide : 0 + 0 ≤ _)⟩)
 dsimp only [Pt.U, Pt.locs, Pt.cells, Pt.slots] at X380 l380 y380 z380 st380 hQ380
 rw [l380, y380, z380] at X380
 obtain ⟨rfl, N380q, e380⟩ := hQ380
 have N380 := Fr.app N379 N380q
 -- pc 16: AbstractStringBuilder.isLatin1 by rm_il
 obtain ⟨cq381, kq381, q381a, q381b, q381c⟩ := isOf hZ e380 Eb
 obtain ⟨_, _, ⟨T381, L381, k381, n381⟩, -, X381, ⟨Lc381, hQ381, l381, y381, z381⟩, st381⟩ := X380.virtualBack hx (y := (⟨kS0, "isLatin1", "()Z"⟩ : MethodName)) (z := (⟨kS0, "isLatin1", "()Z"⟩ : MethodName)) hown (mvT hZ (wd hw 170 rfl)) (mvT hZ (wd hw 171 rfl)) (notFace_of_selects (args := #[]) (mvT hZ (wd hw 173 rfl))) (mvT hZ (wd hw 173 rfl)) (mvT hZ (wd hw 172 rfl)) (by decide) (backOf (W := 0) (rm_il l Z a0 hw [] a1 z0 h0 n0 Z0 O0 Fbc (by first | assumption | decide | omega) (by first | assumption | decide | omega)) hZ (wd hw 174 rfl) (wd hw 87 rfl) (by decide) (by decide)) q381a q381c (g := (mkF m 16 (la12 x1 a1 d1 (18 : Int32)) [(.ref a1)])) rfl (by rw [hml]; rfl) (Steps.refl _) (argsL := []) (rest := []) (lenOf pd_17 rfl) rfl (wz rfl) (hb hby d28_16) (fun _ _ => ⟨rfl, e380, (by decide : 0 + 0 ≤ _), (by decide : 0 + 0 ≤ _)⟩)
 dsimp only [Pt.U, Pt.locs, Pt.cells, Pt.slots] at X381 l381 y381 z381 st381 hQ381
 rw [l381, y381, z381] at X381
 obtain ⟨rfl, N381q, e381⟩ := hQ381
 have N381 := Fr.app N380 N381q
 obtain ⟨T382, h382, X382, e382, W382, st382⟩ := putFN X381 hx hZ hown (wd hw 26 rfl) Via.refl e381 Fc1 Es (Or.inr ⟨(wd hw 27 rfl), rfl, hnm⟩) (wd hw 1 rfl) (ty := .byte) (v' := (.int 0)) (by decide) rfl rfl (g := (mkF m 24 (la12 x1 a1 d1 (18 : Int32)) [(.int 0), (.ref x1)])) rfl rfl (hb hby d28_24)
 have ge383 : n0 ≤ x1 := by omega
 have N382 := Fr.snoc X382 N381 ge383
 have ne384 : x1 ≠ d1 := Exa.neArv Es Vb (wd hw 1 rfl)
 have ne385 : x1 ≠ a1 := ne_exa Es Eb (by decide)
 have sz382 : h0.size ≤ h382.size := Nat.le_of_eq W382.size.symm
 have nz382 := Nat.le_trans Z0 sz382
 have f382 : Fld Z h382 x1 kS1 "coder" "B" (.int 0) := Fc1.same W382
 -- pc 32: Arrays.copyOfRange by rm_cr_18_34
 have f387 : Arv Z h382 d1 kd .byte (34 : Int32) [(.int xe0), (.int xe1), (.int xe2), (.int xe3), (.int xe4), (.int xe5), (.int xe6), (.int xe7), (.int xe8), (.int xe9), (.int xe10), (.int xe11), (.int xe12), (.int xe13), (.int xe14), (.int xe15), (.int xe16), (.int xe17), (.int 0), (.int 0), (.int 0), (.int 0), (.int 0), (.int 0), (.int 0), (.int 0), (.int 0), (.int 0), (.int 0), (.int 0), (.int 0), (.int 0), (.int 0), (.int 0)] (.int 0) := (Vb.other W382 (Ne.symm ne384))
 obtain ⟨_, _, ⟨T386, L386, k386, n386⟩, -, X386, ⟨Lc386, hQ386, l386, y386, z386⟩, st386⟩ := Jvm.LawKit.callS X382 hx (y := (⟨"java/util/Arrays", "copyOfRange", "([BII)[B"⟩ : MethodName)) hown (mvT hZ (wd hw 175 rfl)) (mvT hZ (wd hw 176 rfl)) (mvT hZ (wd hw 177 rfl)) (mvT hZ (wd hw 178 rfl)) (by decide) (backOf (W := 1) (rm_cr_18_34 l Z a0 hw [] d1 kd xe0 xe1 xe2 xe3 xe4 xe5 xe6 xe7 xe8 xe9 xe10 xe11 xe12 xe13 xe14 xe15 xe16 xe17 h382 n0 nz382 f387) hZ (wd hw 178 rfl) (wd hw 177 rfl) (by decide) (by decide)) (g := (mkF m 32 (la12 x1 a1 d1 (18 : Int32)) [(.int 18), (.int 0), (.ref d1), (.ref x1)])) rfl (by rw [hml]; rfl) (argsL := [(.ref d1), (.int 0), (.int 18)]) (rest := [(.ref x1)]) (lenOf pd_15 rfl) rfl (wz rfl) (hb hby d28_32) (fun _ _ => ⟨rfl, e382, (by decide : 0 + 1 ≤ _), (by decide : 0 + 18 ≤ _)⟩)
 dsimp only [Pt.U, Pt.locs, Pt.cells, Pt.slots] at X386 l386 y386 z386 st386 hQ386
 rw [l386, y386, z386] at X386
 obtain ⟨h386, e386⟩ : ∃ z, T386.heap = z := ⟨_, rfl⟩
 rw [e386] at hQ386
 obtain ⟨t_386, k_386, rfl, N386q, K386, p386_0, p386_1, r386_0⟩ := hQ386
 have N386 := Fr.app N382 N386q
 have sz386 : h382.size ≤ h386.size := K386.1
 have nz386 := Nat.le_trans nz382 sz386
 have lt386_0 := ltA p386_0.lt
 have lt386_1 := ltA p386_1.lt
 have f388 : Fld Z h386 x1 kS1 "value" "[B" u1 := ((Fv1.other W382 (Or.inr (slot_ne (Or.inr (wd hw 29 rfl)) (Or.inr (wd hw 27 rfl)) (by decide) (t := (.array .byte)) (t' := .byte) (by decide) (by decide)))).keep K386 nin0)
 have f389 : Exa Z h386 x1 kS1 := ((Es.wr W382).keep K386)
 obtain ⟨T390, h390, X390, e390, W390, st390⟩ := putF X386 hx hZ hown (host := "") (Or.inl (wd hw 28 rfl)) Via.refl e386 f388 f389 (Or.inr ⟨(wd hw 29 rfl), rfl, hnm⟩) (wd hw 1 rfl) (ty := (.array .byte)) (by decide) rfl rfl (g := (mkF m 35 (la12 x1 a1 d1 (18 : Int32)) [(.ref t_386), (.ref x1)])) rfl rfl (hb hby d28_35)
 have N390 := Fr.snoc X390 N386 ge383
 have ne391 : x1 ≠ t_386 := ne_exa f389 p386_0 (by decide)
 have sz390 : h386.size ≤ h390.size := Nat.le_of_eq W390.size.symm
 have nz390 := Nat.le_trans nz386 sz390
 have f390 : Fld Z h390 x1 kS1 "value" "[B" (.ref t_386) := f388.same W390
 have f392 : Exa Z h390 x1 kS1 := (f389.wr W390)
 have f393 : Fld Z h390 x1 kS1 "coder" "B" (.int 0) := ((f382.keep K386 nin0).other W390 (Or.inr (slot_ne (Or.inr (wd hw 27 rfl)) (Or.inr (wd hw 29 rfl)) (by decide) (t := .byte) (t' := (.array .byte)) (by decide) (by decide))))
 have f394 : Exa Z h390 t_386 "[B" := (p386_0.wr W390)
 have f395 : Arv Z h390 t_386 k_386 .byte (18 : Int32) [(.int xe0), (.int xe1), (.int xe2), (.int xe3), (.int xe4), (.int xe5), (.int xe6), (.int xe7), (.int xe8), (.int xe9), (.int xe10), (.int xe11), (.int xe12), (.int xe13), (.int xe14), (.int xe15), (.int xe16), (.int xe17)] (.int 0) := (p386_1.other W390 (Ne.symm ne391))
 obtain ⟨fs, hr, hrun, hended, hW, hsame⟩ := X390.leave (v := none) (fun _ => rfl)
 refine ⟨_, _, pre0 _ ?_, hrun, hended, _, _, rfl, ?_, ⟨_, rfl⟩, hW, hsame.mono (by decide) (by decide)⟩
 ·show GO p e below s₁ (mkF m 0 (la10 x1 a1) []) _
  refine XS.aloadN X0.here hx rfl (hb hby d28_0) rfl rfl ?_
  show GO p e below s₁ (mkF m 1 (la10 x1 a1) [(.ref x1)]) _
  refine st378 _ ?_
  show GO p e below T378 (mkF m 4 (la10 x1 a1) []) _
  refine XS.aloadN X378.here hx rfl (hb hby d28_4) rfl rfl ?_
  show GO p e below T378 (mkF m 5 (la10 x1 a1) [(.ref a1)]) _
  refine st379.trans ?_
  show GO p e below T379 (mkF m 8 (la10 x1 a1) [(.ref d1)]) _
  refine XS.astoreN X379.here hx rfl (hb hby d28_8) rfl rfl (l' := (la11 x1 a1 d1)) rfl ?_
  show GO p e below T379 (mkF m 9 (la11 x1 a1 d1) []) _
  refine XS.aloadN X379.here hx rfl (hb hby d28_9) rfl rfl ?_
  show GO p e below T379 (mkF m 10 (la11 x1 a1 d1) [(.ref a1)]) _
  refine st380.trans ?_
  show GO p e below T380 (mkF m 13 (la11 x1 a1 d1) [(.int 18)]) _
  refine XS.istore X380.here hx rfl (hb hby d28_13) rfl (l' := (la12 x1 a1 d1 (18 : Int32))) rfl ?_
  show GO p e below T380 (mkF m 15 (la12 x1 a1 d1 (18 : Int32)) []) _
  refine XS.aloadN X380.here hx rfl (hb hby d28_15) rfl rfl ?_
  show GO p e below T380 (mkF m 16 (la12 x1 a1 d1 (18 : Int32)) [(.ref a1)]) _
  refine st381.trans ?_
  show GO p e below T381 (mkF m 19 (la12 x1 a1 d1 (18 : Int32)) [(.int 1)]) _
  refine XS.ifNo X381.here hx rfl (hb hby d28_19) rfl ((if0 _ _).trans (feq ((by decide) : ¬ ((1 : Int32) = (0 : Int32)))).1) ?_
  show GO p e below T381 (mkF m 22 (la12 x1 a1 d1 (18 : Int32)) []) _
  refine XS.aloadN X381.here hx rfl (hb hby d28_22) rfl rfl ?_
  show GO p e below T381 (mkF m 23 (la12 x1 a1 d1 (18 : Int32)) [(.ref x1)]) _
  refine XS.iconst X381.here hx rfl (hb hby d28_23) ?_
  show GO p e below T381 (mkF m 24 (la12 x1 a1 d1 (18 : Int32)) [(.int 0), (.ref x1)]) _
  refine st382 _ ?_
  show GO p e below T382 (mkF m 27 (la12 x1 a1 d1 (18 : Int32)) []) _
  refine XS.aloadN X382.here hx rfl (hb hby d28_27) rfl rfl ?_
  show GO p e below T382 (mkF m 28 (la12 x1 a1 d1 (18 : Int32)) [(.ref x1)]) _
  refine XS.aloadN X382.here hx rfl (hb hby d28_28) rfl rfl ?_
  show GO p e below T382 (mkF m 29 (la12 x1 a1 d1 (18 : Int32)) [(.ref d1), (.ref x1)]) _
  refine XS.iconst X382.here hx rfl (hb hby d28_29) ?_
  show GO p e below T382 (mkF m 30 (la12 x1 a1 d1 (18 : Int32)) [(.int 0), (.ref d1), (.ref x1)]) _
  refine XS.iload X382.here hx rfl (hb hby d28_30) rfl ?_
  show GO p e below T382 (mkF m 32 (la12 x1 a1 d1 (18 : Int32)) [(.int 18), (.int 0), (.ref d1), (.ref x1)]) _
  refine st386 _ ?_
  show GO p e below T386 (mkF m 35 (la12 x1 a1 d1 (18 : Int32)) [(.ref t_386), (.ref x1)]) _
  refine st390 _ ?_
  show GO p e below T390 (mkF m 38 (la12 x1 a1 d1 (18 : Int32)) []) _
  refine XS.goto X390.here hx rfl (pc0 := 38) (pc' := 97) rfl (hb hby d28_38) (by decide) (by decide) ?_
  show GO p e below T390 (mkF m 97 (la12 x1 a1 d1 (18 : Int32)) []) _
  exact X390.returnOut hx Bd.returns (hb hby d28_97) hr
 ·show Qrm_si2_18_34 Z x1 u1 u2 a1 d1 kd xe0 xe1 xe2 xe3 xe4 xe5 xe6 xe7 xe8 xe9 xe10 xe11 xe12 xe13 xe14 xe15 xe16 xe17 z0 h0 n0 _ T390.heap _
  rw [e390]
  exact ⟨t_386, k_386, rfl, N390, ((((Keep.refl h0 [x1]).wr W382 (Or.inl (List.mem_of_getElem? (i := 0) rfl))).trans K386 all0).wr W390 (Or.inl (List.mem_of_getElem? (i := 0) rfl))), f392, f393, f390, f394, f395, (by omega)⟩
def Qrm_si1_18_34 (Z : State) (x1 : Addr) (u1 : Value) (u2 : Value) (a1 : Addr) (d1 : Addr) (kd : ClassId) (xe0 : Int32) (xe1 : Int32) (xe2 : Int32) (xe3 : Int32) (xe4 : Int32) (xe5 : Int32) (xe6 : Int32) (xe7 : Int32) (xe8 : Int32) (xe9 : Int32) (xe10 : Int32) (xe11 : Int32) (xe12 : Int32) (xe13 : Int32) (xe14 : Int32) (xe15 : Int32) (xe16 : Int32) (xe17 : Int32) (z0 : Int32) (h0 : Heap) (n0 : Nat) (v : Option Value) (h : Heap) (L : List Loc) : Prop := ∃ t : Addr, ∃ k : ClassId, v = none ∧ Fr n0 L ∧ Keep h0 h [x1] ∧ Exa Z h x1 kS1 ∧ Fld Z h x1 kS1 "coder" "B" (.int 0) ∧ Fld Z h x1 kS1 "value" "[B" (.ref t) ∧ Exa Z h t "[B" ∧ Arv Z h t k .byte (18 : Int32) [(.int xe0), (.int xe1), (.int xe2), (.int xe3), (.int xe4), (.int xe5), (.int xe6), (.int xe7), (.int xe8), (.int xe9), (.int xe10), (.int xe11), (.int xe12), (.int xe13), (.int xe14), (.int xe15), (.int xe16), (.int xe17)] (.int 0) ∧ h0.size ≤ t
theorem ef_rm_si1_18_34 (m : MethodId) (x0 : Addr) (x1 : Addr) : entryFrame m #[(.ref x0), (.ref x1)] 2 = mkF m 0 #[.val (.ref x0), .val (.ref x1)] [] := by first | rfl | (simp [entryFrame, mkF, argsToLocals, Value.category]; done)
theorem rm_si1_18_34 (l : Launch) (Z : State) (a0 : Array Value) (hw : HW Z a0) (ws : List Jvm.Cond) (x1 : Addr) (u1 : Value) (u2 : Value) (a1 : Addr) (d1 : Addr) (kd : ClassId) (xe0 : Int32) (xe1 : Int32) (xe2 : Int32) (xe3 : Int32) (xe4 : Int32) (xe5 : Int32) (xe6 : Int32) (xe7 : Int32) (xe8 : Int32) (xe9 : Int32) (xe10 : Int32) (xe11 : Int32) (xe12 : Int32) (xe13 : Int32) (xe14 : Int32) (xe15 : Int32) (xe16 : Int32) (xe17 : Int32) (z0 : Int32) (h0 : Heap) (n0 : Nat) (Z0 : n0 ≤ h0.size) (O0 : Old Z n0 h0) (Es : Exa Z h0 x1 kS1) (Fv1 : Fld Z h0 x1 kS1 "value" "[B" u1) (Fc1 : Fld Z h0 x1 kS1 "coder" "B" u2) (Eb : Exa Z h0 a1 kS2) (Fbv : Fld Z h0 a1 kS0 "value" "[B" (.ref d1)) (Fbc : Fld Z h0 a1 kS0 "coder" "B" (.int 0)) (Fbn : Fld Z h0 a1 kS0 "count" "I" (.int 18)) (Vb : Arv Z h0 d1 kd .byte (34 : Int32) [(.int xe0), (.int xe1), (.int xe2), (.int xe3), (.int xe4), (.int xe5), (.int xe6), (.int xe7), (.int xe8), (.int xe9), (.int xe10), (.int xe11), (.int xe12), (.int xe13), (.int xe14), (.int xe15), (.int xe16), (.int xe17), (.int 0), (.int 0), (.int 0), (.int 0), (.int 0), (.int 0), (.int 0), (.int 0), (.int 0), (.int 0), (.int 0), (.int 0), (.int 0), (.int 0), (.int 0), (.int 0)] (.int 0)) (SZc : Sta Z Z.heap kS1 "COMPACT_STRINGS" "Z" (.int z0)) (hz0 : ¬ z0 = 0) (gx : n0 ≤ x1) :
  OwnM l Z h0 (⟨kS1, "<init>", "(Ljava/lang/StringBuilder;)V"⟩ : MethodName) (Jvm.Cond.code (⟨kS1, "<init>", "(Ljava/lang/StringBuilder;)V"⟩ : MethodName) jdk_42_method_53_code 2 none :: ws) (RM 4 1 18 65) #[(.ref x1), (.ref a1)] (Qrm_si1_18_34 Z x1 u1 u2 a1 d1 kd xe0 xe1 xe2 xe3 xe4 xe5 xe6 xe7 xe8 xe9 xe10 xe11 xe12 xe13 xe14 xe15 xe16 xe17 z0 h0 n0) := by
 refine MetFree.of_bodySF (plainFor_of_name pn_1) hisR ?_
 intro p e s m args below meth c s₁ Bd hml0 hP hK
 obtain ⟨rfl, hZ, hh⟩ := hP
 have hx := Bd.exec
 have hby := Bd.bytes
 have hml : c.maxLocals = 2 := hml0
 have hown : s.vm.findClass kS1 = some m.cls := findClass_of_methodNamed Bd.named
 have hnm := (name_of_methodNamed Bd.named Bd.method).1
 have X0 : Stand p l e (RM 4 1 18 65) s m #[(.ref x1), (.ref a1)] below meth c s₁ [] 0 0 := Stand.of_body Bd
 have e0 : s₁.heap = h0 := by rw [← hh, Bd.state]; rfl
 have N0 := Fr.nil n0
 have pre0 : ∀ t, GO p e below s₁ (mkF m 0 #[.val (.ref x1), .val (.ref a1)] []) t → GO p e below s₁ (entryFrame m #[(.ref x1), (.ref a1)] 2) t := fun t k => castTop (ef_rm_si1_18_34 m x1 a1) k
 have lt_Es := ltA Es.lt
 have lt_Fv1 := ltA Fv1.lt
 have lt_Fc1 := ltA Fc1.lt
 have lt_Eb := ltA Eb.lt
 have lt_Fbv := ltA Fbv.lt
 have lt_Fbc := ltA Fbc.lt
 have lt_Fbn := ltA Fbn.lt
 have lt_Vb := ltA Vb.lt
 -- pc 3: String.<init> by rm_si2_18_34
 obtain ⟨_, _, ⟨T396, L396, k396, n396⟩, -, X396, ⟨Lc396, hQ396, l396, y396, z396⟩, st396⟩ := X0.specialBack hx (y := (⟨kS1, "<init>", "(Ljava/lang/AbstractStringBuilder;Ljava/lang/Void;)V"⟩ : MethodName)) rfl hown (mvT hZ (wd hw 154 rfl)) (mvT hZ (wd hw 155 rfl)) (mvT hZ (wd hw 156 rfl)) (by decide) (backOf (W := 0) (rm_si2_18_34 l Z a0 hw [] x1 u1 u2 a1 d1 kd xe0 xe1 xe2 xe3 xe4 xe5 xe6 xe7 xe8 xe9 xe10 xe11 xe12 xe13 xe14 xe15 xe16 xe17 z0 h0 n0 Z0 O0 Es Fv1 Fc1 Eb Fbv Fbc Fbn Vb (by first | assumption | decide | omega) (by first | assumption | decide | omega) (by first | assumption | decide | omega)) hZ (wd hw 156 rfl) (wd hw 2 rfl) (by decide) (by decide)) (g := (mkF m 3 #[.val (.ref x1), .val (.ref a1)] [.null, (.ref a1), (.ref x1)])) rfl (by rw [hml]; rfl) (Steps.refl _) (a := x1) (argsL := [(.ref a1), .null]) (rest := []) (lenOf pd_18 rfl) rfl (wz rfl) (hb hby d27_3) (fun _ _ => ⟨rfl, e0, (by decide : 0 + 1 ≤ _), (by decide : 0 + 18 ≤ _)⟩)
 dsimp only [Pt.U, Pt.locs, Pt.cells, Pt.slots] at X396 l396 y396 z396 st396 hQ396
 rw [l396, y396, z396] at X396
 obtain ⟨h396, e396⟩ : ∃ z, T396.heap = z := ⟨_, rfl⟩
 rw [e396] at hQ396
 obtain ⟨t_396, k_396, rfl, N396q, K396, p396_0, p396_1, p396_2, p396_3, p396_4, r396_0⟩ := hQ396
 have N396 := Fr.app N0 N396q
 have sz396 : h0.size ≤ h396.size := K396.1
 have nz396 := Nat.le_trans Z0 sz396
 have lt396_0 := ltA p396_0.lt
 have lt396_3 := ltA p396_3.lt
 have lt396_4 := ltA p396_4.lt
 obtain ⟨fs, hr, hrun, hended, hW, hsame⟩ := X396.leave (v := none) (fun _ => rfl)
 refine ⟨_, _, pre0 _ ?_, hrun, hended, _, _, rfl, ?_, ⟨_, rfl⟩, hW, hsame.mono (by decide) (by decide)⟩
 ·show GO p e below s₁ (mkF m 0 #[.val (.ref x1), .val (.ref a1)] []) _
  refine XS.aloadN X0.here hx rfl (hb hby d27_0) rfl rfl ?_
  show GO p e below s₁ (mkF m 1 #[.val (.ref x1), .val (.ref a1)] [(.ref x1)]) _
  refine XS.aloadN X0.here hx rfl (hb hby d27_1) rfl rfl ?_
  show GO p e below s₁ (mkF m 2 #[.val (.ref x1), .val (.ref a1)] [(.ref a1), (.ref x1)]) _
  refine XS.aconstNull X0.here hx rfl (hb hby d27_2) ?_
  show GO p e below s₁ (mkF m 3 #[.val (.ref x1), .val (.ref a1)] [.null, (.ref a1), (.ref x1)]) _
  refine st396.trans ?_
  show GO p e below T396 (mkF m 6 #[.val (.ref x1), .val (.ref a1)] []) _
  exact X396.returnOut hx Bd.returns (hb hby d27_6) hr
 ·show Qrm_si1_18_34 Z x1 u1 u2 a1 d1 kd xe0 xe1 xe2 xe3 xe4 xe5 xe6 xe7 xe8 xe9 xe10 xe11 xe12 xe13 xe14 xe15 xe16 xe17 z0 h0 n0 _ T396.heap _
  rw [e396]
  exact ⟨t_396, k_396, rfl, N396, ((Keep.refl h0 [x1]).trans K396 (allS (P := fun x => x ∈ _ ∨ _) (Or.inl (List.mem_of_getElem? (i := 0) rfl)) all0)), p396_0, p396_1, p396_2, p396_3, p396_4, r396_0⟩
def Qrm_ts_18_34 (Z : State) (a1 : Addr) (d1 : Addr) (kd : ClassId) (xe0 : Int32) (xe1 : Int32) (xe2 : Int32) (xe3 : Int32) (xe4 : Int32) (xe5 : Int32) (xe6 : Int32) (xe7 : Int32) (xe8 : Int32) (xe9 : Int32) (xe10 : Int32) (xe11 : Int32) (xe12 : Int32) (xe13 : Int32) (xe14 : Int32) (xe15 : Int32) (xe16 : Int32) (xe17 : Int32) (z0 : Int32) (h0 : Heap) (n0 : Nat) (v : Option Value) (h : Heap) (L : List Loc) : Prop := ∃ x : Addr, ∃ t : Addr, ∃ k : ClassId, v = some (.ref x) ∧ Fr n0 L ∧ Keep h0 h [] ∧ Exa Z h x kS1 ∧ Fld Z h x kS1 "coder" "B" (.int 0) ∧ Fld Z h x kS1 "value" "[B" (.ref t) ∧ Exa Z h t "[B" ∧ Arv Z h t k .byte (18 : Int32) [(.int xe0), (.int xe1), (.int xe2), (.int xe3), (.int xe4), (.int xe5), (.int xe6), (.int xe7), (.int xe8), (.int xe9), (.int xe10), (.int xe11), (.int xe12), (.int xe13), (.int xe14), (.int xe15), (.int xe16), (.int xe17)] (.int 0) ∧ h0.size ≤ x ∧ h0.size ≤ t
theorem ef_rm_ts_18_34 (m : MethodId) (x0 : Addr) : entryFrame m #[(.ref x0)] 1 = mkF m 0 #[.val (.ref x0)] [] := by first | rfl | (simp [entryFrame, mkF, argsToLocals, Value.category]; done)
theorem rm_ts_18_34 (l : Launch) (Z : State) (a0 : Array Value) (hw : HW Z a0) (ws : List Jvm.Cond) (a1 : Addr) (d1 : Addr) (kd : ClassId) (xe0 : Int32) (xe1 : Int32) (xe2 : Int32) (xe3 : Int32) (xe4 : Int32) (xe5 : Int32) (xe6 : Int32) (xe7 : Int32) (xe8 : Int32) (xe9 : Int32) (xe10 : Int32) (xe11 : Int32) (xe12 : Int32) (xe13 : Int32) (xe14 : Int32) (xe15 : Int32) (xe16 : Int32) (xe17 : Int32) (z0 : Int32) (h0 : Heap) (n0 : Nat) (Z0 : n0 ≤ h0.size) (O0 : Old Z n0 h0) (Eb : Exa Z h0 a1 kS2) (Fbv : Fld Z h0 a1 kS0 "value" "[B" (.ref d1)) (Fbc : Fld Z h0 a1 kS0 "coder" "B" (.int 0)) (Fbn : Fld Z h0 a1 kS0 "count" "I" (.int 18)) (Vb : Arv Z h0 d1 kd .byte (34 : Int32) [(.int xe0), (.int xe1), (.int xe2), (.int xe3), (.int xe4), (.int xe5), (.int xe6), (.int xe7), (.int xe8), (.int xe9), (.int xe10), (.int xe11), (.int xe12), (.int xe13), (.int xe14), (.int xe15), (.int xe16), (.int xe17), (.int 0), (.int 0), (.int 0), (.int 0), (.int 0), (.int 0), (.int 0), (.int 0), (.int 0), (.int 0), (.int 0), (.int 0), (.int 0), (.int 0), (.int 0), (.int 0)] (.int 0)) (SZc : Sta Z Z.heap kS1 "COMPACT_STRINGS" "Z" (.int z0)) (hz0 : ¬ z0 = 0) :
  OwnM l Z h0 (⟨kS2, "toString", "()Ljava/lang/String;"⟩ : MethodName) (Jvm.Cond.code (⟨kS2, "toString", "()Ljava/lang/String;"⟩ : MethodName) jdk_67_method_42_code 1 (some (.object kS1)) :: ws) (RM 5 2 22 79) #[(.ref a1)] (Qrm_ts_18_34 Z a1 d1 kd xe0 xe1 xe2 xe3 xe4 xe5 xe6 xe7 xe8 xe9 xe10 xe11 xe12 xe13 xe14 xe15 xe16 xe17 z0 h0 n0) := by
 refine MetFree.of_bodySF (plainFor_of_name pn_7) hisR ?_
 intro p e s m args below meth c s₁ Bd hml0 hP hK
 obtain ⟨rfl, hZ, hh⟩ := hP
 have hx := Bd.exec
 have hby := Bd.bytes
 have hml : c.maxLocals = 1 := hml0
 have hown : s.vm.findClass kS2 = some m.cls := findClass_of_methodNamed Bd.named
 have hnm := (name_of_methodNamed Bd.named Bd.method).1
 have X0 : Stand p l e (RM 5 2 22 79) s m #[(.ref a1)] below meth c s₁ [] 0 0 := Stand.of_body Bd
 have e0 : s₁.heap = h0 := by rw [← hh, Bd.state]; rfl
 have N0 := Fr.nil n0
 have pre0 : ∀ t, GO p e below s₁ (mkF m 0 #[.val (.ref a1)] []) t → GO p e below s₁ (entryFrame m #[(.ref a1)] 1) t := fun t k => castTop (ef_rm_ts_18_34 m a1) k
 have lt_Eb := ltA Eb.lt
 have lt_Fbv := ltA Fbv.lt
 have lt_Fbc := ltA Fbc.lt
 have lt_Fbn := ltA Fbn.lt
 have lt_Vb := ltA Vb.lt
 obtain ⟨T397, h397, X397, e397, E397, A397, D397, U397, st397⟩ := newO X0 hx hZ hown (wd hw 150 rfl) (wd hw 1 rfl) (wd hw 2 rfl) e0 (g := (mkF m 0 #[.val (.ref a1)] [])) rfl (hb hby d26_0) (by decide) (by decide)
 obtain ⟨b397, g397⟩ : ∃ z, z = h0.size := ⟨_, rfl⟩
 rw [← g397] at A397 D397 U397 st397
 have sz397 : h0.size ≤ h397.size := E397.1
 have nz397 := Nat.le_trans Z0 sz397
 have lt397 := ltA A397.lt
 have f398 : Fld Z h397 b397 kS1 "coder" "B" (.int 0) := D397 (Or.inr (wd hw 27 rfl)) (ty := .byte) (by decide)
 have f399 : Fld Z h397 b397 kS1 "value" "[B" .null := D397 (Or.inr (wd hw 29 rfl)) (ty := (.array .byte)) (by decide)
 -- pc 5: String.<init> by rm_si1_18_34
 have f401 : Old Z n0 h397 := (O0.ext E397)
 have f402 : Exa Z h397 a1 kS2 := (Eb.ext E397)
 have f403 : Fld Z h397 a1 kS0 "value" "[B" (.ref d1) := (Fbv.ext E397)
 have f404 : Fld Z h397 a1 kS0 "coder" "B" (.int 0) := (Fbc.ext E397)
 have f405 : Fld Z h397 a1 kS0 "count" "I" (.int 18) := (Fbn.ext E397)
 have f406 : Arv Z h397 d1 kd .byte (34 : Int32) [(.int xe0), (.int xe1), (.int xe2), (.int xe3), (.int xe4), (.int xe5), (.int xe6), (.int xe7), (.int xe8), (.int xe9), (.int xe10), (.int xe11), (.int xe12), (.int xe13), (.int xe14), (.int xe15), (.int xe16), (.int xe17), (.int 0), (.int 0), (.int 0), (.int 0), (.int 0), (.int 0), (.int 0), (.int 0), (.int 0), (.int 0), (.int 0), (.int 0), (.int 0), (.int 0), (.int 0), (.int 0)] (.int 0) := (Vb.ext E397)
 obtain ⟨_, _, ⟨T400, L400, k400, n400⟩, -, X400, ⟨Lc400, hQ400, l400, y400, z400⟩, st400⟩ := X397.specialBack hx (y := (⟨kS1, "<init>", "(Ljava/lang/StringBuilder;)V"⟩ : MethodName)) rfl hown (mvT hZ (wd hw 151 rfl)) (mvT hZ (wd hw 152 rfl)) (mvT hZ (wd hw 153 rfl)) (by decide) (backOf (W := 1) (rm_si1_18_34 l Z a0 hw [] b397 .null (.int 0) a1 d1 kd xe0 xe1 xe2 xe3 xe4 xe5 xe6 xe7 xe8 xe9 xe10 xe11 xe12 xe13 xe14 xe15 xe16 xe17 z0 h397 n0 nz397 f401 A397 f399 f398 f402 f403 f404 f405 f406 (by first | assumption | decide | omega) (by first | assumption | decide | omega) (by first | assumption | decide | omega)) hZ (wd hw 153 rfl) (wd hw 2 rfl) (by decide) (by decide)) (g := (mkF m 5 #[.val (.ref a1)] [(.ref a1), (.ref b397), (.ref b397)])) rfl (by rw [hml]; rfl) (Steps.refl _) (a := b397) (argsL := [(.ref a1)]) (rest := [(.ref b397)]) (lenOf pd_19 rfl) rfl (wz rfl) (hb hby d26_5) (fun _ _ => ⟨rfl, e397, (by decide : 1 + 1 ≤ _), (by decide : 4 + 18 ≤ _)⟩)
 dsimp only [Pt.U, Pt.locs, Pt.cells, Pt.slots] at X400 l400 y400 z400 st400 hQ400
 rw [l400, y400, z400] at X400
 obtain ⟨h400, e400⟩ : ∃ z, T400.heap = z := ⟨_, rfl⟩
 rw [e400] at hQ400
 obtain ⟨t_400, k_400, rfl, N400q, K400, p400_0, p400_1, p400_2, p400_3, p400_4, r400_0⟩ := hQ400
 have N400 := Fr.app N0 N400q
 have sz400 : h397.size ≤ h400.size := K400.1
 have nz400 := Nat.le_trans nz397 sz400
 have lt400_0 := ltA p400_0.lt
 have lt400_3 := ltA p400_3.lt
 have lt400_4 := ltA p400_4.lt
 obtain ⟨fs, hr, hrun, hended, hW, hsame⟩ := X400.leave (v := some (.ref b397)) (fun h => by rw [Bd.returns] at h; cases h)
 refine ⟨_, _, pre0 _ ?_, hrun, hended, _, _, rfl, ?_, ⟨_, rfl⟩, hW, hsame.mono (by decide) (by decide)⟩
 ·show GO p e below s₁ (mkF m 0 #[.val (.ref a1)] []) _
  refine st397 _ ?_
  show GO p e below T397 (mkF m 3 #[.val (.ref a1)] [(.ref b397)]) _
  refine XS.dup X397.here hx rfl (hb hby d26_3) rfl rfl ?_
  show GO p e below T397 (mkF m 4 #[.val (.ref a1)] [(.ref b397), (.ref b397)]) _
  refine XS.aloadN X397.here hx rfl (hb hby d26_4) rfl rfl ?_
  show GO p e below T397 (mkF m 5 #[.val (.ref a1)] [(.ref a1), (.ref b397), (.ref b397)]) _
  refine st400.trans ?_
  show GO p e below T400 (mkF m 8 #[.val (.ref a1)] [(.ref b397)]) _
  exact retOut X400 hx Bd.returns rfl (Or.inr (Or.inr (Or.inr (Or.inr ⟨rfl, rfl, rfl⟩)))) (hb hby d26_8) hr
 ·show Qrm_ts_18_34 Z a1 d1 kd xe0 xe1 xe2 xe3 xe4 xe5 xe6 xe7 xe8 xe9 xe10 xe11 xe12 xe13 xe14 xe15 xe16 xe17 z0 h0 n0 _ T400.heap _
  rw [e400]
  exact ⟨b397, t_400, k_400, rfl, N400, (((Keep.refl h0 []).ext E397).trans K400 (allS (P := fun x => x ∈ _ ∨ _) (Or.inr (by omega)) all0)), p400_0, p400_1, p400_2, p400_3, p400_4, (by omega), (by omega)⟩
def Qrm_cond1 (Z : State) (x1 : Addr) (t1 : Addr) (k1 : ClassId) (xs0 : Int32) (xs1 : Int32) (a1 : Addr) (o1 : Addr) (v1 : Addr) (z0 : Int32) (h0 : Heap) (n0 : Nat) (v : Option Value) (h : Heap) (L : List Loc) : Prop := ∃ x : Addr, ∃ t : Addr, ∃ k : ClassId, v = some (.ref x) ∧ Fr n0 L ∧ Keep h0 h [] ∧ Exa Z h x kS1 ∧ Fld Z h x kS1 "coder" "B" (.int 0) ∧ Fld Z h x kS1 "value" "[B" (.ref t) ∧ Arv Z h t k .byte (18 : Int32) [(.int xs0), (.int xs1), (.int 32), (.int 62), (.int 61), (.int 32), (.int 63), (.int 32), (.int 65), (.int 78), (.int 68), (.int 32), (.int xs0), (.int xs1), (.int 32), (.int 60), (.int 32), (.int 63)] (.int 0)
theorem ef_rm_cond1 (m : MethodId) (x0 : Addr) (x1 : Addr) : entryFrame m #[(.ref x0), (.ref x1)] 2 = mkF m 0 #[.val (.ref x0), .val (.ref x1)] [] := by first | rfl | (simp [entryFrame, mkF, argsToLocals, Value.category]; done)
theorem rm_cond1 (l : Launch) (Z : State) (a0 : Array Value) (hw : HW Z a0) (ws : List Jvm.Cond) (x1 : Addr) (t1 : Addr) (k1 : ClassId) (xs0 : Int32) (xs1 : Int32) (a1 : Addr) (o1 : Addr) (v1 : Addr) (z0 : Int32) (h0 : Heap) (n0 : Nat) (Z0 : n0 ≤ h0.size) (O0 : Old Z n0 h0) (Esx1 : Exa Z h0 x1 kS1) (Fcx1 : Fld Z h0 x1 kS1 "coder" "B" (.int 0)) (Fvx1 : Fld Z h0 x1 kS1 "value" "[B" (.ref t1)) (Vsx1 : Arv Z h0 t1 k1 .byte (2 : Int32) [(.int xs0), (.int xs1)] (.int 0)) (Fb : Fld Z h0 a1 "com/example/lease/lease/store/KeyRange" "below" "Ljava/util/Optional;" (.ref o1)) (Eo : Exa Z h0 o1 "java/util/Optional") (Fo : Fld Z h0 o1 "java/util/Optional" "value" "Ljava/lang/Object;" (.ref v1)) (SZc : Sta Z Z.heap kS1 "COMPACT_STRINGS" "Z" (.int z0)) (hz0 : ¬ z0 = 0) :
  OwnW l Z h0 (⟨"com/example/lease/lease/store/KeyRange", "condition", "(Ljava/lang/String;)Ljava/lang/String;"⟩ : MethodName) (Jvm.Cond.code (⟨"com/example/lease/lease/store/KeyRange", "condition", "(Ljava/lang/String;)Ljava/lang/String;"⟩ : MethodName) prog_34_method_3_code 2 (some (.object kS1)) :: ws) (RM 6 9 140 91) #[(.ref a1), (.ref x1)] [] (Qrm_cond1 Z x1 t1 k1 xs0 xs1 a1 o1 v1 z0 h0 n0) := by
 refine MetFree.of_bodySF (plainFor_of_name pn_5) hisR ?_
 intro p e s m args below meth c s₁ Bd hml0 hP hK
 obtain ⟨rfl, hZ, hh, H0, sf⟩ := hP
 have hx := Bd.exec
 have hby := Bd.bytes
 have hml : c.maxLocals = 2 := hml0
 have hown : s.vm.findClass "com/example/lease/lease/store/KeyRange" = some m.cls := findClass_of_methodNamed Bd.named
 have hnm := (name_of_methodNamed Bd.named Bd.method).1
 have X0 : Stand p l e (RM 6 9 140 91) (s.setVm s.vm) m #[(.ref a1), (.ref x1)] below meth c s₁ [] 0 0 := Stand.of_body Bd
 have hS0 : s.Since s.vm h0.size := (State.WarmedH.refl s).since _
 have C0 : CHr Z EL1 s.vm h0 s.vm h0 := CHr.refl H0
 have e0 : s₁.heap = h0 := by rw [← hh, Bd.state]; rfl
 have N0 := Fr.nil n0
 have pre0 : ∀ t, GO p e below s₁ (mkF m 0 #[.val (.ref a1), .val (.ref x1)] []) t → GO p e below s₁ (entryFrame m #[(.ref a1), (.ref x1)] 2) t := fun t k => castTop (ef_rm_cond1 m a1 x1) k
 have lt_Esx1 := ltA Esx1.lt
 have lt_Fcx1 := ltA Fcx1.lt
 have lt_Fvx1 := ltA Fvx1.lt
 have lt_Vsx1 := ltA Vsx1.lt
 have lt_Fb := ltA Fb.lt
 have lt_Eo := ltA Eo.lt
 have lt_Fo := ltA Fo.lt
 obtain ⟨T407, X407, e407, st407⟩ := getF X0 hx hZ hown (host := "") (Or.inl (wd hw 63 rfl)) Via.refl e0 Fb (g := (mkF m 1 #[.val (.ref a1), .val (.ref x1)] [(.ref a1)])) rfl rfl (hb hby d14_1)
 -- pc 4: Optional.isPresent by rm_ip1
 obtain ⟨cq408, kq408, q408a, q408b, q408c⟩ := isOf hZ e407 Eo
 obtain ⟨_, _, ⟨T408, L408, k408, n408⟩, -, X408, ⟨Lc408, hQ408, l408, y408, z408⟩, st408⟩ := X407.virtualBack hx (y := (⟨"java/util/Optional", "isPresent", "()Z"⟩ : MethodName)) (z := (⟨"java/util/Optional", "isPresent", "()Z"⟩ : MethodName)) hown (mvT hZ (wd hw 70 rfl)) (mvT hZ (wd hw 71 rfl)) (notFace_of_selects (args := #[]) (mvT hZ (wd hw 73 rfl))) (mvT hZ (wd hw 73 rfl)) (mvT hZ (wd hw 72 rfl)) (by decide) (backOf (W := 0) (rm_ip1 l Z a0 hw [] o1 v1 h0 n0 Z0 Fo) hZ (wd hw 74 rfl) (wd hw 32 rfl) (by decide) (by decide)) q408a q408c (g := (mkF m 4 #[.val (.ref a1), .val (.ref x1)] [(.ref o1)])) rfl (by rw [hml]; rfl) (Steps.refl _) (argsL := []) (rest := []) (lenOf pd_17 rfl) rfl (wz rfl) (hb hby d14_4) (fun _ _ => ⟨rfl, e407, (by decide : 0 + 0 ≤ _), (by decide : 0 + 0 ≤ _)⟩)
 dsimp only [Pt.U, Pt.locs, Pt.cells, Pt.slots] at X408 l408 y408 z408 st408 hQ408
 rw [l408, y408, z408] at X408
 obtain ⟨rfl, N408q, e408⟩ := hQ408
 have N408 := Fr.app N0 N408q
 obtain ⟨T409, h409, X409, e409, E409, A409, D409, U409, st409⟩ := newO X408 hx hZ hown (wd hw 77 rfl) (wd hw 78 rfl) (wd hw 79 rfl) e408 (g := (mkF m 10 #[.val (.ref a1), .val (.ref x1)] [])) rfl (hb hby d14_10) (by decide) (by decide)
 obtain ⟨b409, g409⟩ : ∃ z, z = h0.size := ⟨_, rfl⟩
 rw [← g409] at A409 D409 U409 st409
 have C410 : CHr Z EL1 s.vm h0 s.vm h409 := C0.trans (CHr.ext E409 C0.1)
 have sz409 : h0.size ≤ h409.size := E409.1
 have nz409 := Nat.le_trans Z0 sz409
 have lt409 := ltA A409.lt
 have f411 : Fld Z h409 b409 kS0 "value" "[B" .null := D409 (Or.inl (wd hw 92 rfl)) (ty := (.array .byte)) (by decide)
 have f412 : Fld Z h409 b409 kS0 "coder" "B" (.int 0) := D409 (Or.inl (wd hw 94 rfl)) (ty := .byte) (by decide)
 have f413 : Fld Z h409 b409 kS0 "count" "I" (.int 0) := D409 (Or.inl (wd hw 116 rfl)) (ty := .int) (by decide)
 -- pc 14: StringBuilder.<init> by rm_bi
 have f415 : Old Z n0 h409 := (O0.ext E409)
 obtain ⟨_, _, ⟨T414, L414, k414, n414⟩, -, X414, ⟨Lc414, hQ414, l414, y414, z414⟩, st414⟩ := X409.specialBack hx (y := (⟨kS2, "<init>", "()V"⟩ : MethodName)) rfl hown (mvT hZ (wd hw 80 rfl)) (mvT hZ (wd hw 81 rfl)) (mvT hZ (wd hw 82 rfl)) (by decide) (backOf (W := 1) (rm_bi l Z a0 hw [] b409 .null (.int 0) z0 h409 n0 nz409 f415 A409 f411 f412 f413 (by first | assumption | decide | omega) (by first | assumption | decide | omega) (by first | assumption | decide | omega)) hZ (wd hw 82 rfl) (wd hw 79 rfl) (by decide) (by decide)) (g := (mkF m 14 #[.val (.ref a1), .val (.ref x1)] [(.ref b409), (.ref b409)])) rfl (by rw [hml]; rfl) (Steps.refl _) (a := b409) (argsL := []) (rest := [(.ref b409)]) (lenOf pd_5 rfl) rfl (wz rfl) (hb hby d14_14) (fun _ _ => ⟨rfl, e409, (by decide : 1 + 1 ≤ _), (by decide : 4 + 16 ≤ _)⟩)
 dsimp only [Pt.U, Pt.locs, Pt.cells, Pt.slots] at X414 l414 y414 z414 st414 hQ414
 rw [l414, y414, z414] at X414
 obtain ⟨h414, e414⟩ : ∃ z, T414.heap = z := ⟨_, rfl⟩
 rw [e414] at hQ414
 obtain ⟨d_414, k_414, rfl, N414q, K414, p414_0, p414_1, p414_2, p414_3, p414_4, r414_0⟩ := hQ414
 have N414 := Fr.app N408 N414q
 have f416 : Exa Z h409 x1 kS1 := (Esx1.ext E409)
 have ne417 : b409 ≠ x1 := ne_exa A409 f416 (by decide)
 have f418 : Arv Z h409 t1 k1 .byte (2 : Int32) [(.int xs0), (.int xs1)] (.int 0) := (Vsx1.ext E409)
 have ne419 : b409 ≠ t1 := Exa.neArv A409 f418 (wd hw 78 rfl)
 have C420 : CHr Z EL1 s.vm h0 s.vm h414 := C410.trans (CHr.keep K414 (sfS (Safe.exa hZ.alike A409 (by decide) (by decide)) sf0) C410.1)
 have sz414 : h409.size ≤ h414.size := K414.1
 have nz414 := Nat.le_trans nz409 sz414
 have lt414_0 := ltA p414_0.lt
 have lt414_4 := ltA p414_4.lt
 have B414_d_414 : Safe Z EL1 s.vm h414 d_414 := Safe.keep K414 (sfS (Safe.exa hZ.alike A409 (by decide) (by decide)) sf0) C410.1 (Safe.new (by omega))
 -- pc 18: StringBuilder.append by rm_sa_2_0_16
 have ge422 : n0 ≤ b409 := by omega
 have f423 : Old Z n0 h414 := (f415.keep K414 (allS ge422 all0))
 have f424 : Exa Z h414 x1 kS1 := (f416.keep K414)
 have f425 : Fld Z h414 x1 kS1 "coder" "B" (.int 0) := ((Fcx1.ext E409).keep K414 (ninS (Ne.symm ne417) nin0))
 have f426 : Fld Z h414 x1 kS1 "value" "[B" (.ref t1) := ((Fvx1.ext E409).keep K414 (ninS (Ne.symm ne417) nin0))
 have f427 : Arv Z h414 t1 k1 .byte (2 : Int32) [(.int xs0), (.int xs1)] (.int 0) := (f418.keep K414 (ninS (Ne.symm ne419) nin0))
 have ne428 : t1 ≠ d_414 := neN (by omega)
 obtain ⟨cq421, kq421, q421a, q421b, q421c⟩ := isOf hZ e414 p414_0
 obtain ⟨_, _, ⟨T421, L421, k421, n421⟩, -, X421, ⟨Lc421, hQ421, l421, y421, z421⟩, st421⟩ := X414.virtualBack hx (y := (⟨kS2, "append", "(Ljava/lang/String;)Ljava/lang/StringBuilder;"⟩ : MethodName)) (z := (⟨kS2, "append", "(Ljava/lang/String;)Ljava/lang/StringBuilder;"⟩ : MethodName)) hown (mvT hZ (wd hw 95 rfl)) (mvT hZ (wd hw 96 rfl)) (notFace_of_selects (args := #[]) (mvT hZ (wd hw 98 rfl))) (mvT hZ (wd hw 98 rfl)) (mvT hZ (wd hw 97 rfl)) (by decide) (backOf (W := 0) (rm_sa_2_0_16 l Z a0 hw [] x1 t1 k1 xs0 xs1 b409 d_414 k_414 z0 h414 n0 nz414 f423 f424 f425 f426 f427 p414_0 p414_1 p414_2 p414_3 p414_4 (by first | assumption | decide | omega) (by first | assumption | decide | omega) (by first | assumption | decide | omega) (by first | assumption | decide | omega) ne428) hZ (wd hw 99 rfl) (wd hw 79 rfl) (by decide) (by decide)) q421a q421c (g := (mkF m 18 #[.val (.ref a1), .val (.ref x1)] [(.ref x1), (.ref b409)])) rfl (by rw [hml]; rfl) (Steps.refl _) (argsL := [(.ref x1)]) (rest := []) (lenOf pd_20 rfl) rfl (wz rfl) (hb hby d14_18) (fun _ _ => ⟨rfl, e414, (by decide : 2 + 0 ≤ _), (by decide : 20 + 0 ≤ _)⟩)
 dsimp only [Pt.U, Pt.locs, Pt.cells, Pt.slots] at X421 l421 y421 z421 st421 hQ421
 rw [l421, y421, z421] at X421
 obtain ⟨h421, e421⟩ : ∃ z, T421.heap = z := ⟨_, rfl⟩
 rw [e421] at hQ421
 obtain ⟨rfl, N421q, K421, p421_0, p421_1, p421_2, p421_3, p421_4⟩ := hQ421
 have N421 := Fr.app N414 N421q
 have ne429 : d_414 ≠ x1 := Ne.symm (Exa.neArv f424 p414_4 (wd hw 1 rfl))
 have C430 : CHr Z EL1 s.vm h0 s.vm h421 := C420.trans (CHr.keep K421 (sfS (Safe.exa hZ.alike p414_0 (by decide) (by decide)) (sfS B414_d_414 sf0)) C420.1)
 have sz421 : h414.size ≤ h421.size := K421.1
 have nz421 := Nat.le_trans nz414 sz421
 have lt421_0 := ltA p421_0.lt
 have lt421_4 := ltA p421_4.lt
 obtain ⟨sa431, T431, h431, kk431, sb431, sk431, X431, e431, E431, hS431, hk431, hZ431, hown431, A431, Fc431, Fv431, V431, lt431, ltb431, C431w, Lt431, ne431, st431⟩ := ldcCH X421 hx hZ hown (wd hw 212 rfl) (own_wS hw) e421 hS0 (by omega) (own_EW hw) (by decide) C430.1 (vs := [(.int 32), (.int 62), (.int 61), (.int 32), (.int 63), (.int 32), (.int 65), (.int 78), (.int 68), (.int 32)]) (z := (10 : Int32)) (by decide +kernel) (by decide) (by decide) (g := (mkF m 21 #[.val (.ref a1), .val (.ref x1)] [(.ref b409)])) rfl (hb hby d14_21) (n := 40) (by decide) (by decide) (by decide) (by decide)
 have C432 : CHr Z EL1 s.vm h0 T431.vm h431 := C430.trans (C431w)
 have sz431 : h421.size ≤ h431.size := E431.1
 have nz431 := Nat.le_trans nz421 sz431
 have lv431 := ltA lt431
 have lw431 := ltA ltb431
 have f433 : Safe Z EL1 T431.vm h431 d_414 := (CHr.safe C431w (ltN (by omega)) (Safe.keep K421 (sfS (Safe.exa hZ.alike p414_0 (by decide) (by decide)) (sfS B414_d_414 sf0)) C420.1 B414_d_414))
 have nx431_d_414 := ne431 d_414 f433
 have f434 : Exa Z h431 b409 kS2 := (p421_0.ext E431)
 have nx431_b409 := ne431 b409 (Safe.exa hZ431.alike f434 (by decide) (by decide))
 have f435 : Exa Z h431 o1 "java/util/Optional" := ((((Eo.ext E409).keep K414).keep K421).ext E431)
 have nx431_o1 := ne431 o1 (Safe.exa hZ431.alike f435 (by decide) (by decide))
 -- pc 23: StringBuilder.append by rm_sa_10_2_16
 have ge437 : n0 ≤ d_414 := by omega
 have f438 : Old Z n0 h431 := ((f423.keep K421 (allS ge422 (allS ge437 all0))).ext E431)
 have f439 : Fld Z h431 b409 kS0 "value" "[B" (.ref d_414) := (p421_1.ext E431)
 have f440 : Fld Z h431 b409 kS0 "coder" "B" (.int 0) := (p421_2.ext E431)
 have f441 : Fld Z h431 b409 kS0 "count" "I" (.int 2) := (p421_3.ext E431)
 have f442 : Arv Z h431 d_414 k_414 .byte (16 : Int32) [(.int xs0), (.int xs1), (.int 0), (.int 0), (.int 0), (.int 0), (.int 0), (.int 0), (.int 0), (.int 0), (.int 0), (.int 0), (.int 0), (.int 0), (.int 0), (.int 0)] (.int 0) := (p421_4.ext E431)
 obtain ⟨cq436, kq436, q436a, q436b, q436c⟩ := isOf hZ431 e431 f434
 obtain ⟨_, _, ⟨T436, L436, k436, n436⟩, -, X436, ⟨Lc436, hQ436, l436, y436, z436⟩, st436⟩ := X431.virtualBack hx (y := (⟨kS2, "append", "(Ljava/lang/String;)Ljava/lang/StringBuilder;"⟩ : MethodName)) (z := (⟨kS2, "append", "(Ljava/lang/String;)Ljava/lang/StringBuilder;"⟩ : MethodName)) hown431 (mvT hZ431 (wd hw 95 rfl)) (mvT hZ431 (wd hw 96 rfl)) (notFace_of_selects (args := #[]) (mvT hZ431 (wd hw 98 rfl))) (mvT hZ431 (wd hw 98 rfl)) (mvT hZ431 (wd hw 97 rfl)) (by decide) (backOf (W := 0) (rm_sa_10_2_16 l Z a0 hw [] sa431 sb431 sk431 (32 : Int32) (62 : Int32) (61 : Int32) (32 : Int32) (63 : Int32) (32 : Int32) (65 : Int32) (78 : Int32) (68 : Int32) (32 : Int32) b409 d_414 k_414 xs0 xs1 z0 h431 n0 nz431 f438 A431 Fc431 Fv431 V431 f434 f439 f440 f441 f442 (by first | assumption | decide | omega) (by first | assumption | decide | omega) (by first | assumption | decide | omega) (by first | assumption | decide | omega) (Ne.symm nx431_d_414.2)) hZ431 (wd hw 99 rfl) (wd hw 79 rfl) (by decide) (by decide)) q436a q436c (g := (mkF m 23 #[.val (.ref a1), .val (.ref x1)] [(.ref sa431), (.ref b409)])) rfl (by rw [hml]; rfl) (Steps.refl _) (argsL := [(.ref sa431)]) (rest := []) (lenOf pd_20 rfl) rfl (wz rfl) (hb hby d14_23) (fun _ _ => ⟨rfl, e431, (by decide : 4 + 0 ≤ _), (by decide : 64 + 0 ≤ _)⟩)
 dsimp only [Pt.U, Pt.locs, Pt.cells, Pt.slots] at X436 l436 y436 z436 st436 hQ436
 rw [l436, y436, z436] at X436
 obtain ⟨h436, e436⟩ : ∃ z, T436.heap = z := ⟨_, rfl⟩
 rw [e436] at hQ436
 obtain ⟨rfl, N436q, K436, p436_0, p436_1, p436_2, p436_3, p436_4⟩ := hQ436
 have N436 := Fr.app N421 N436q
 have C443 : CHr Z EL1 s.vm h0 T431.vm h436 := C432.trans (CHr.keep K436 (sfS (Safe.exa hZ431.alike f434 (by decide) (by decide)) (sfS f433 sf0)) C432.1)
 have sz436 : h431.size ≤ h436.size := K436.1
 have nz436 := Nat.le_trans nz431 sz436
 have lt436_0 := ltA p436_0.lt
 have lt436_4 := ltA p436_4.lt
 -- pc 27: StringBuilder.append by rm_sa_2_12_16
 have f445 : Old Z n0 h436 := (f438.keep K436 (allS ge422 (allS ge437 all0)))
 have f446 : Exa Z h436 x1 kS1 := (((f424.keep K421).ext E431).keep K436)
 have f447 : Fld Z h436 x1 kS1 "coder" "B" (.int 0) := (((f425.keep K421 (ninS (Ne.symm ne417) (ninS (Ne.symm ne429) nin0))).ext E431).keep K436 (ninS (Ne.symm ne417) (ninS (Ne.symm ne429) nin0)))
 have f448 : Fld Z h436 x1 kS1 "value" "[B" (.ref t1) := (((f426.keep K421 (ninS (Ne.symm ne417) (ninS (Ne.symm ne429) nin0))).ext E431).keep K436 (ninS (Ne.symm ne417) (ninS (Ne.symm ne429) nin0)))
 have f449 : Arv Z h436 t1 k1 .byte (2 : Int32) [(.int xs0), (.int xs1)] (.int 0) := (((f427.keep K421 (ninS (Ne.symm ne419) (ninS ne428 nin0))).ext E431).keep K436 (ninS (Ne.symm ne419) (ninS ne428 nin0)))
 have f450 : Safe Z EL1 T431.vm h436 d_414 := (Safe.keep K436 (sfS (Safe.exa hZ431.alike f434 (by decide) (by decide)) (sfS f433 sf0)) C432.1 f433)
 obtain ⟨cq444, kq444, q444a, q444b, q444c⟩ := isOf hZ431 e436 p436_0
 obtain ⟨_, _, ⟨T444, L444, k444, n444⟩, -, X444, ⟨Lc444, hQ444, l444, y444, z444⟩, st444⟩ := X436.virtualBack hx (y := (⟨kS2, "append", "(Ljava/lang/String;)Ljava/lang/StringBuilder;"⟩ : MethodName)) (z := (⟨kS2, "append", "(Ljava/lang/String;)Ljava/lang/StringBuilder;"⟩ : MethodName)) hown431 (mvT hZ431 (wd hw 95 rfl)) (mvT hZ431 (wd hw 96 rfl)) (notFace_of_selects (args := #[]) (mvT hZ431 (wd hw 98 rfl))) (mvT hZ431 (wd hw 98 rfl)) (mvT hZ431 (wd hw 97 rfl)) (by decide) (backOf (W := 0) (rm_sa_2_12_16 l Z a0 hw [] x1 t1 k1 xs0 xs1 b409 d_414 k_414 xs0 xs1 (32 : Int32) (62 : Int32) (61 : Int32) (32 : Int32) (63 : Int32) (32 : Int32) (65 : Int32) (78 : Int32) (68 : Int32) (32 : Int32) z0 h436 n0 nz436 f445 f446 f447 f448 f449 p436_0 p436_1 p436_2 p436_3 p436_4 (by first | assumption | decide | omega) (by first | assumption | decide | omega) (by first | assumption | decide | omega) (by first | assumption | decide | omega) ne428) hZ431 (wd hw 99 rfl) (wd hw 79 rfl) (by decide) (by decide)) q444a q444c (g := (mkF m 27 #[.val (.ref a1), .val (.ref x1)] [(.ref x1), (.ref b409)])) rfl (by rw [hml]; rfl) (Steps.refl _) (argsL := [(.ref x1)]) (rest := []) (lenOf pd_20 rfl) rfl (wz rfl) (hb hby d14_27) (fun _ _ => ⟨rfl, e436, (by decide : 4 + 0 ≤ _), (by decide : 64 + 0 ≤ _)⟩)
 dsimp only [Pt.U, Pt.locs, Pt.cells, Pt.slots] at X444 l444 y444 z444 st444 hQ444
 rw [l444, y444, z444] at X444
 obtain ⟨h444, e444⟩ : ∃ z, T444.heap = z := ⟨_, rfl⟩
 rw [e444] at hQ444
 obtain ⟨rfl, N444q, K444, p444_0, p444_1, p444_2, p444_3, p444_4⟩ := hQ444
 have N444 := Fr.app N436 N444q
 have C451 : CHr Z EL1 s.vm h0 T431.vm h444 := C443.trans (CHr.keep K444 (sfS (Safe.exa hZ431.alike p436_0 (by decide) (by decide)) (sfS f450 sf0)) C443.1)
 have sz444 : h436.size ≤ h444.size := K444.1
 have nz444 := Nat.le_trans nz436 sz444
 have lt444_0 := ltA p444_0.lt
 have lt444_4 := ltA p444_4.lt
 obtain ⟨sa452, T452, h452, kk452, sb452, sk452, X452, e452, E452, hS452, hk452, hZ452, hown452, A452, Fc452, Fv452, V452, lt452, ltb452, C452w, Lt452, ne452, st452⟩ := ldcCH X444 hx hZ431 hown431 (wd hw 213 rfl) (own_wS hw) e444 hS431 (by omega) (own_EW hw) (by decide) C451.1 (vs := [(.int 32), (.int 60), (.int 32), (.int 63)]) (z := (4 : Int32)) (by decide +kernel) (by decide) (by decide) (g := (mkF m 30 #[.val (.ref a1), .val (.ref x1)] [(.ref b409)])) rfl (hb hby d14_30) (n := 16) (by decide) (by decide) (by decide) (by decide)
 have C453 : CHr Z EL1 s.vm h0 T452.vm h452 := C451.trans (C452w)
 have sz452 : h444.size ≤ h452.size := E452.1
 have nz452 := Nat.le_trans nz444 sz452
 have lv452 := ltA lt452
 have lw452 := ltA ltb452
 have f454 : Safe Z EL1 T452.vm h452 d_414 := (CHr.safe C452w (ltN (by omega)) (Safe.keep K444 (sfS (Safe.exa hZ431.alike p436_0 (by decide) (by decide)) (sfS f450 sf0)) C443.1 f450))
 have nx452_d_414 := ne452 d_414 f454
 have f455 : Exa Z h452 b409 kS2 := (p444_0.ext E452)
 have nx452_b409 := ne452 b409 (Safe.exa hZ452.alike f455 (by decide) (by decide))
 have f456 : Exa Z h452 o1 "java/util/Optional" := (((f435.keep K436).keep K444).ext E452)
 have nx452_o1 := ne452 o1 (Safe.exa hZ452.alike f456 (by decide) (by decide))
 -- pc 32: StringBuilder.append by rm_sg_4_14_16
 have f458 : Old Z n0 h452 := ((f445.keep K444 (allS ge422 (allS ge437 all0))).ext E452)
 have f459 : Fld Z h452 b409 kS0 "value" "[B" (.ref d_414) := (p444_1.ext E452)
 have f460 : Fld Z h452 b409 kS0 "coder" "B" (.int 0) := (p444_2.ext E452)
 have f461 : Fld Z h452 b409 kS0 "count" "I" (.int 14) := (p444_3.ext E452)
 have f462 : Arv Z h452 d_414 k_414 .byte (16 : Int32) [(.int xs0), (.int xs1), (.int 32), (.int 62), (.int 61), (.int 32), (.int 63), (.int 32), (.int 65), (.int 78), (.int 68), (.int 32), (.int xs0), (.int xs1), (.int 0), (.int 0)] (.int 0) := (p444_4.ext E452)
 obtain ⟨cq457, kq457, q457a, q457b, q457c⟩ := isOf hZ452 e452 f455
 obtain ⟨_, _, ⟨T457, L457, k457, n457⟩, -, X457, ⟨Lc457, hQ457, l457, y457, z457⟩, st457⟩ := X452.virtualBack hx (y := (⟨kS2, "append", "(Ljava/lang/String;)Ljava/lang/StringBuilder;"⟩ : MethodName)) (z := (⟨kS2, "append", "(Ljava/lang/String;)Ljava/lang/StringBuilder;"⟩ : MethodName)) hown452 (mvT hZ452 (wd hw 95 rfl)) (mvT hZ452 (wd hw 96 rfl)) (notFace_of_selects (args := #[]) (mvT hZ452 (wd hw 98 rfl))) (mvT hZ452 (wd hw 98 rfl)) (mvT hZ452 (wd hw 97 rfl)) (by decide) (backOf (W := 0) (rm_sg_4_14_16 l Z a0 hw [] sa452 sb452 sk452 (32 : Int32) (60 : Int32) (32 : Int32) (63 : Int32) b409 d_414 k_414 xs0 xs1 (32 : Int32) (62 : Int32) (61 : Int32) (32 : Int32) (63 : Int32) (32 : Int32) (65 : Int32) (78 : Int32) (68 : Int32) (32 : Int32) xs0 xs1 z0 h452 n0 nz452 f458 A452 Fc452 Fv452 V452 f455 f459 f460 f461 f462 (by first | assumption | decide | omega) (by first | assumption | decide | omega) (by first | assumption | decide | omega) (by first | assumption | decide | omega) (Ne.symm nx452_d_414.2)) hZ452 (wd hw 99 rfl) (wd hw 79 rfl) (by decide) (by decide)) q457a q457c (g := (mkF m 32 #[.val (.ref a1), .val (.ref x1)] [(.ref sa452), (.ref b409)])) rfl (by rw [hml]; rfl) (Steps.refl _) (argsL := [(.ref sa452)]) (rest := []) (lenOf pd_20 rfl) rfl (wz rfl) (hb hby d14_32) (fun _ _ => ⟨rfl, e452, (by decide : 6 + 1 ≤ _), (by decide : 84 + 34 ≤ _)⟩)
 dsimp only [Pt.U, Pt.locs, Pt.cells, Pt.slots] at X457 l457 y457 z457 st457 hQ457
 rw [l457, y457, z457] at X457
 obtain ⟨h457, e457⟩ : ∃ z, T457.heap = z := ⟨_, rfl⟩
 rw [e457] at hQ457
 obtain ⟨t_457, k_457, rfl, N457q, K457, p457_0, p457_1, p457_2, p457_3, p457_4, r457_0⟩ := hQ457
 have N457 := Fr.app N444 N457q
 have C463 : CHr Z EL1 s.vm h0 T452.vm h457 := C453.trans (CHr.keep K457 (sfS (Safe.exa hZ452.alike f455 (by decide) (by decide)) sf0) C453.1)
 have sz457 : h452.size ≤ h457.size := K457.1
 have nz457 := Nat.le_trans nz452 sz457
 have lt457_0 := ltA p457_0.lt
 have lt457_4 := ltA p457_4.lt
 have B457_t_457 : Safe Z EL1 T452.vm h457 t_457 := Safe.keep K457 (sfS (Safe.exa hZ452.alike f455 (by decide) (by decide)) sf0) C453.1 (Safe.new (by omega))
 -- pc 35: StringBuilder.toString by rm_ts_18_34
 have f465 : Old Z n0 h457 := (f458.keep K457 (allS ge422 all0))
 obtain ⟨cq464, kq464, q464a, q464b, q464c⟩ := isOf hZ452 e457 p457_0
 obtain ⟨_, _, ⟨T464, L464, k464, n464⟩, -, X464, ⟨Lc464, hQ464, l464, y464, z464⟩, st464⟩ := X457.virtualBack hx (y := (⟨kS2, "toString", "()Ljava/lang/String;"⟩ : MethodName)) (z := (⟨kS2, "toString", "()Ljava/lang/String;"⟩ : MethodName)) hown452 (mvT hZ452 (wd hw 145 rfl)) (mvT hZ452 (wd hw 146 rfl)) (notFace_of_selects (args := #[]) (mvT hZ452 (wd hw 148 rfl))) (mvT hZ452 (wd hw 148 rfl)) (mvT hZ452 (wd hw 147 rfl)) (by decide) (backOf (W := 0) (rm_ts_18_34 l Z a0 hw [] b409 t_457 k_457 xs0 xs1 (32 : Int32) (62 : Int32) (61 : Int32) (32 : Int32) (63 : Int32) (32 : Int32) (65 : Int32) (78 : Int32) (68 : Int32) (32 : Int32) xs0 xs1 (32 : Int32) (60 : Int32) (32 : Int32) (63 : Int32) z0 h457 n0 nz457 f465 p457_0 p457_1 p457_2 p457_3 p457_4 (by first | assumption | decide | omega) (by first | assumption | decide | omega)) hZ452 (wd hw 149 rfl) (wd hw 79 rfl) (by decide) (by decide)) q464a q464c (g := (mkF m 35 #[.val (.ref a1), .val (.ref x1)] [(.ref b409)])) rfl (by rw [hml]; rfl) (Steps.refl _) (argsL := []) (rest := []) (lenOf pd_21 rfl) rfl (wz rfl) (hb hby d14_35) (fun _ _ => ⟨rfl, e457, (by decide : 7 + 2 ≤ _), (by decide : 118 + 22 ≤ _)⟩)
 dsimp only [Pt.U, Pt.locs, Pt.cells, Pt.slots] at X464 l464 y464 z464 st464 hQ464
 rw [l464, y464, z464] at X464
 obtain ⟨h464, e464⟩ : ∃ z, T464.heap = z := ⟨_, rfl⟩
 rw [e464] at hQ464
 obtain ⟨x_464, t_464, k_464, rfl, N464q, K464, p464_0, p464_1, p464_2, p464_3, p464_4, r464_0, r464_1⟩ := hQ464
 have N464 := Fr.app N457 N464q
 have C466 : CHr Z EL1 s.vm h0 T452.vm h464 := C463.trans (CHr.keep K464 sf0 C463.1)
 have sz464 : h457.size ≤ h464.size := K464.1
 have nz464 := Nat.le_trans nz457 sz464
 have lt464_0 := ltA p464_0.lt
 have lt464_3 := ltA p464_3.lt
 have lt464_4 := ltA p464_4.lt
 have B464_x_464 : Safe Z EL1 T452.vm h464 x_464 := Safe.keep K464 sf0 C463.1 (Safe.new (by omega))
 have B464_t_464 : Safe Z EL1 T452.vm h464 t_464 := Safe.keep K464 sf0 C463.1 (Safe.new (by omega))
 obtain ⟨fs, hr, hrun, hended, hE⟩ := X464.leaveW hS452 (by rw [e464]; omega) (v := some (.ref x_464)) (fun h => by rw [Bd.returns] at h; cases h)
 have CE := C466.trans (CHv.at X464 hZ452 (own_EW hw) C466.1)
 refine ⟨_, _, pre0 _ ?_, hrun, hended, _, _, rfl, ?_, ?_, ⟨hE.1, hE.2.1, hE.2.2.1, hE.2.2.2.mono (by decide) (by decide)⟩⟩
 ·show GO p e below s₁ (mkF m 0 #[.val (.ref a1), .val (.ref x1)] []) _
  refine XS.aloadN X0.here hx rfl (hb hby d14_0) rfl rfl ?_
  show GO p e below s₁ (mkF m 1 #[.val (.ref a1), .val (.ref x1)] [(.ref a1)]) _
  refine st407 _ ?_
  show GO p e below T407 (mkF m 4 #[.val (.ref a1), .val (.ref x1)] [(.ref o1)]) _
  refine st408.trans ?_
  show GO p e below T408 (mkF m 7 #[.val (.ref a1), .val (.ref x1)] [(.int 1)]) _
  refine XS.ifNo X408.here hx rfl (hb hby d14_7) rfl ((if0 _ _).trans (feq ((by decide) : ¬ ((1 : Int32) = (0 : Int32)))).1) ?_
  show GO p e below T408 (mkF m 10 #[.val (.ref a1), .val (.ref x1)] []) _
  refine st409 _ ?_
  show GO p e below T409 (mkF m 13 #[.val (.ref a1), .val (.ref x1)] [(.ref b409)]) _
  refine XS.dup X409.here hx rfl (hb hby d14_13) rfl rfl ?_
  show GO p e below T409 (mkF m 14 #[.val (.ref a1), .val (.ref x1)] [(.ref b409), (.ref b409)]) _
  refine st414.trans ?_
  show GO p e below T414 (mkF m 17 #[.val (.ref a1), .val (.ref x1)] [(.ref b409)]) _
  refine XS.aloadN X414.here hx rfl (hb hby d14_17) rfl rfl ?_
  show GO p e below T414 (mkF m 18 #[.val (.ref a1), .val (.ref x1)] [(.ref x1), (.ref b409)]) _
  refine st421.trans ?_
  show GO p e below T421 (mkF m 21 #[.val (.ref a1), .val (.ref x1)] [(.ref b409)]) _
  refine st431 _ ?_
  show GO p e below T431 (mkF m 23 #[.val (.ref a1), .val (.ref x1)] [(.ref sa431), (.ref b409)]) _
  refine st436.trans ?_
  show GO p e below T436 (mkF m 26 #[.val (.ref a1), .val (.ref x1)] [(.ref b409)]) _
  refine XS.aloadN X436.here hx rfl (hb hby d14_26) rfl rfl ?_
  show GO p e below T436 (mkF m 27 #[.val (.ref a1), .val (.ref x1)] [(.ref x1), (.ref b409)]) _
  refine st444.trans ?_
  show GO p e below T444 (mkF m 30 #[.val (.ref a1), .val (.ref x1)] [(.ref b409)]) _
  refine st452 _ ?_
  show GO p e below T452 (mkF m 32 #[.val (.ref a1), .val (.ref x1)] [(.ref sa452), (.ref b409)]) _
  refine st457.trans ?_
  show GO p e below T457 (mkF m 35 #[.val (.ref a1), .val (.ref x1)] [(.ref b409)]) _
  refine st464.trans ?_
  show GO p e below T464 (mkF m 38 #[.val (.ref a1), .val (.ref x1)] [(.ref x_464)]) _
  refine XS.goto X464.here hx rfl (pc0 := 38) (pc' := 60) rfl (hb hby d14_38) (by decide) (by decide) ?_
  show GO p e below T464 (mkF m 60 #[.val (.ref a1), .val (.ref x1)] [(.ref x_464)]) _
  exact retOut X464 hx Bd.returns rfl (Or.inr (Or.inr (Or.inr (Or.inr ⟨rfl, rfl, rfl⟩)))) (hb hby d14_60) hr
 ·show Qrm_cond1 Z x1 t1 k1 xs0 xs1 a1 o1 v1 z0 h0 n0 _ T464.heap _
  rw [e464]
  exact ⟨x_464, t_464, k_464, rfl, N464, ((((((((((Keep.refl h0 []).ext E409).trans K414 (allS (P := fun x => x ∈ _ ∨ _) (Or.inr (by omega)) all0)).trans K421 (allS (P := fun x => x ∈ _ ∨ _) (Or.inr (by omega)) (allS (P := fun x => x ∈ _ ∨ _) (Or.inr (by omega)) all0))).ext E431).trans K436 (allS (P := fun x => x ∈ _ ∨ _) (Or.inr (by omega)) (allS (P := fun x => x ∈ _ ∨ _) (Or.inr (by omega)) all0))).trans K444 (allS (P := fun x => x ∈ _ ∨ _) (Or.inr (by omega)) (allS (P := fun x => x ∈ _ ∨ _) (Or.inr (by omega)) all0))).ext E452).trans K457 (allS (P := fun x => x ∈ _ ∨ _) (Or.inr (by omega)) all0)).trans K464 all0), p464_0, p464_1, p464_2, p464_4⟩
 ·show CHr Z EL1 s.vm s.heap T464.vm T464.heap
  rw [hh, e464]
  exact CE
def Qrm0 (Z : State) (p0 : Int32) (p1 : Int32) (p2 : Int32) (p3 : Int32) (p4 : Int32) (z0 : Int32) (q0 : Addr) (h0 : Heap) (n0 : Nat) (v : Option Value) (h : Heap) (L : List Loc) : Prop := v = some (.int 1) ∧ Fr n0 L
theorem ef_rm0 (m : MethodId) (x0 : Int32) (x1 : Int32) (x2 : Int32) (x3 : Int32) (x4 : Int32) : entryFrame m #[(.int x0), (.int x1), (.int x2), (.int x3), (.int x4)] maxLocals = mkF m 0 (la20 x0 x1 x2 x3 x4) [] := by first | (simp [entryFrame, mkF, argsToLocals, Value.category, maxLocals]; done) | rfl
theorem rm0 (l : Launch) (Z : State) (a0 : Array Value) (hw : HW Z a0) (ws : List Jvm.Cond) (p0 : Int32) (p1 : Int32) (p2 : Int32) (p3 : Int32) (p4 : Int32) (z0 : Int32) (q0 : Addr) (h0 : Heap) (n0 : Nat) (Z0 : n0 ≤ h0.size) (O0 : Old Z n0 h0) (SZc : Sta Z Z.heap kS1 "COMPACT_STRINGS" "Z" (.int z0)) (hz0 : ¬ z0 = 0) (HO : (Sta Z Z.heap "java/util/Optional" "EMPTY" "Ljava/util/Optional;" (.ref q0) ∧ Exa Z Z.heap q0 "java/util/Optional" ∧ Fld Z Z.heap q0 "java/util/Optional" "value" "Ljava/lang/Object;" .null)) :
  OwnW l Z h0 x (Jvm.Cond.code x code maxLocals ret :: ws) room_1 #[(.int p0), (.int p1), (.int p2), (.int p3), (.int p4)] [] (Qrm0 Z p0 p1 p2 p3 p4 z0 q0 h0 n0) := by
 refine MetFree.of_bodySF (plainFor_of_name pn_10) hisR ?_
 intro p e s m args below meth c s₁ Bd hml0 hP hK
 obtain ⟨rfl, hZ, hh, H0, sf⟩ := hP
 have hx := Bd.exec
 have hby := Bd.bytes
 have hml : c.maxLocals = 13 := hml0
 have hown : s.vm.findClass "com/example/lease/lease/store/KeyRangeConditionPinLaw" = some m.cls := findClass_of_methodNamed Bd.named
 have hnm := (name_of_methodNamed Bd.named Bd.method).1
 have X0 : Stand p l e room_1 (s.setVm s.vm) m #[(.int p0), (.int p1), (.int p2), (.int p3), (.int p4)] below meth c s₁ [] 0 0 := Stand.of_body Bd
 have hS0 : s.Since s.vm h0.size := (State.WarmedH.refl s).since _
 have C0 : CHr Z EL1 s.vm h0 s.vm h0 := CHr.refl H0
 have e0 : s₁.heap = h0 := by rw [← hh, Bd.state]; rfl
 have N0 := Fr.nil n0
 have pre0 : ∀ t, GO p e below s₁ (mkF m 0 (la20 p0 p1 p2 p3 p4) []) t → GO p e below s₁ (entryFrame m #[(.int p0), (.int p1), (.int p2), (.int p3), (.int p4)] maxLocals) t := fun t k => castTop (ef_rm0 m p0 p1 p2 p3 p4) k
 obtain ⟨c0, hc0⟩ : ∃ z, z = ((p0 &&& (255 : Int32)).toUInt32.toUInt16.toUInt32.toInt32) := ⟨_, rfl⟩
 obtain ⟨c1, hc1⟩ : ∃ z, z = ((p1 &&& (255 : Int32)).toUInt32.toUInt16.toUInt32.toInt32) := ⟨_, rfl⟩
 obtain ⟨rc0, qc0⟩ : (¬ c0 < 0 ∧ ¬ (255 : Int32) < c0) ∧ nar .char c0 = c0 := by rw [hc0]; exact own_ch _
 obtain ⟨rc1, qc1⟩ : (¬ c1 < 0 ∧ ¬ (255 : Int32) < c1) ∧ nar .char c1 = c1 := by rw [hc1]; exact own_ch _
 obtain ⟨T467, h467, X467, e467, E467, A467, D467, U467, st467⟩ := newO X0 hx hZ hown (wd hw 0 rfl) (wd hw 1 rfl) (wd hw 2 rfl) e0 (g := (mkF m 16 (la22 p0 p1 p2 p3 p4 c0 c1) [])) rfl (hb hby at_16) (by decide) (by decide)
 obtain ⟨b467, g467⟩ : ∃ z, z = h0.size := ⟨_, rfl⟩
 rw [← g467] at A467 D467 U467 st467
 have C468 : CHr Z EL1 s.vm h0 s.vm h467 := C0.trans (CHr.ext E467 C0.1)
 have sz467 : h0.size ≤ h467.size := E467.1
 have nz467 := Nat.le_trans Z0 sz467
 have lt467 := ltA A467.lt
 have B467 : Safe Z EL1 s.vm h467 b467 := Safe.ext E467 C0.1 (Safe.new (by omega))
 have f469 : Fld Z h467 b467 kS1 "coder" "B" (.int 0) := D467 (Or.inr (wd hw 27 rfl)) (ty := .byte) (by decide)
 have f470 : Fld Z h467 b467 kS1 "value" "[B" .null := D467 (Or.inr (wd hw 29 rfl)) (ty := (.array .byte)) (by decide)
 obtain ⟨T471, h471, k471, X471, e471, E471, A471, st471⟩ := newP X467 hx hZ (wd hw 3 rfl) e467 (g := (mkF m 21 (la22 p0 p1 p2 p3 p4 c0 c1) [(.int 2), (.ref b467), (.ref b467)])) rfl (hb hby at_21) rfl (by decide) (cap := 2) (by decide) (by decide) (by decide) (by decide)
 obtain ⟨b471, g471⟩ : ∃ z, z = h467.size := ⟨_, rfl⟩
 rw [← g471] at A471 st471
 have C472 : CHr Z EL1 s.vm h0 s.vm h471 := C468.trans (CHr.ext E471 C468.1)
 have sz471 : h467.size ≤ h471.size := E471.1
 have nz471 := Nat.le_trans nz467 sz471
 have lt471 := ltA A471.lt
 have V471 : Arv Z h471 b471 k471 .char (2 : Int32) [(.int 0), (.int 0)] (.int 0) := (Arv.new A471 (by decide)).pad (pad_rep [] (.int 0) 2)
 obtain ⟨cl473, Ar473, q473, S473, M473, H473, G473⟩ := id V471
 have hin473 : ¬ ((0 : Int32) < 0 ∨ cl473.slots.size ≤ ((0 : Int32)).toNatClampNeg) := inb_of S473 ⟨by decide, by decide⟩
 obtain ⟨T474, h474, X474, e474, W474, st474⟩ := stC X471 hx hZ e471 Ar473 (j := (0 : Int32)) hin473 (g := (mkF m 27 (la22 p0 p1 p2 p3 p4 c0 c1) [(.int c0), (.int 0), (.ref b471), (.ref b471), (.ref b467), (.ref b467)])) rfl rfl (hb hby at_27)
 have ge475 : n0 ≤ b471 := by omega
 have N474 := Fr.snoc X474 N0 ge475
 have C476 : CHr Z EL1 s.vm h0 s.vm h474 := C472.trans (CHr.wr W474 (Safe.arv hZ.alike V471 (by decide)) C472.1)
 have sz474 : h471.size ≤ h474.size := Nat.le_of_eq W474.size.symm
 have nz474 := Nat.le_trans nz471 sz474
 have V474 : Arv Z h474 b471 k471 .char (2 : Int32) [(.int (nar .char c0)), (.int 0)] (.int 0) := Arv.set Ar473 q473 S473 M473 H473 G473 (fits_nar_char _) W474 0 rfl (Nat.le_of_ble_eq_true rfl)
 obtain ⟨cl477, Ar477, q477, S477, M477, H477, G477⟩ := id V474
 have hin477 : ¬ ((1 : Int32) < 0 ∨ cl477.slots.size ≤ ((1 : Int32)).toNatClampNeg) := inb_of S477 ⟨by decide, by decide⟩
 obtain ⟨T478, h478, X478, e478, W478, st478⟩ := stC X474 hx hZ e474 Ar477 (j := (1 : Int32)) hin477 (g := (mkF m 32 (la22 p0 p1 p2 p3 p4 c0 c1) [(.int c1), (.int 1), (.ref b471), (.ref b471), (.ref b467), (.ref b467)])) rfl rfl (hb hby at_32)
 have N478 := Fr.snoc X478 N474 ge475
 have C479 : CHr Z EL1 s.vm h0 s.vm h478 := C476.trans (CHr.wr W478 (Safe.arv hZ.alike V474 (by decide)) C476.1)
 have sz478 : h474.size ≤ h478.size := Nat.le_of_eq W478.size.symm
 have nz478 := Nat.le_trans nz474 sz478
 have V478 : Arv Z h478 b471 k471 .char (2 : Int32) [(.int (nar .char c0)), (.int (nar .char c1))] (.int 0) := Arv.set Ar477 q477 S477 M477 H477 G477 (fits_nar_char _) W478 1 rfl (Nat.le_of_ble_eq_true rfl)
 have V480 : Arv Z h478 b471 k471 .char (2 : Int32) [(.int c0), (.int c1)] (.int 0) := by
  have q := V478
  rw [qc0, qc1] at q
  exact q
 have f481 : Exa Z h478 b467 kS1 := (((A467.ext E471).wr W474).wr W478)
 have ne482 : b467 ≠ b471 := neN (by omega)
 have f483 : Fld Z h478 b467 kS1 "value" "[B" .null := (((f470.ext E471).other W474 (Or.inl ne482)).other W478 (Or.inl ne482))
 have f484 : Fld Z h478 b467 kS1 "coder" "B" (.int 0) := (((f469.ext E471).other W474 (Or.inl ne482)).other W478 (Or.inl ne482))
 have f485 : Old Z n0 h478 := ((((O0.ext E467).ext E471).wr W474 ge475).wr W478 ge475)
 have S486 : Sta Z h478 kS1 "COMPACT_STRINGS" "Z" (.int z0) := SZc.ext f485.2
 have f487 : Safe Z EL1 s.vm h478 b467 := (Safe.wr W478 (Safe.arv hZ.alike V474 (by decide)) C476.1 (Safe.wr W474 (Safe.arv hZ.alike V471 (by decide)) C472.1 (Safe.ext E471 C468.1 B467)))
 obtain ⟨v488, _, ⟨T488, L488, k488, n488⟩, -, X488, ⟨Lc488, hQ488, l488, y488, z488⟩, st488⟩ := X478.specialBack hx (y := (⟨kS1, "<init>", "([C)V"⟩ : MethodName)) rfl hown (mvT hZ (wd hw 4 rfl)) (mvT hZ (wd hw 5 rfl)) (mvT hZ (wd hw 6 rfl)) (by decide) (StrChars.Road.backV (W := 1) hZ (own_hws hw) (kI := 4) (wd hw 1 rfl) (cs := ([c0, c1] : List Int32)) (bs := ([c0, c1] : List Int32).map (fun c => c.toInt8.toInt32)) (n := 2) (n0 := n0) (by omega) (by omega) f481 f483 f484 V480 S486 hz0 rfl rfl (by decide) (by decide) (own_allS rc0 (own_allS rc1 own_all0)) rfl (by decide) (by decide)) (g := (mkF m 33 (la22 p0 p1 p2 p3 p4 c0 c1) [(.ref b471), (.ref b467), (.ref b467)])) rfl (by rw [hml]; rfl) (Steps.refl _) (a := b467) (argsL := [(.ref b471)]) (rest := [(.ref b467)]) (lenOf pd_25 rfl) rfl (wz rfl) (hb hby at_33) (fun _ _ => ⟨rfl, e478, (by decide : 2 + 1 ≤ _), (by decide : 6 + 2 ≤ _)⟩)
 dsimp only [Pt.U, Pt.locs, Pt.cells, Pt.slots] at X488 l488 y488 z488 st488 hQ488
 rw [l488, y488, z488] at X488
 obtain ⟨h488, e488⟩ : ∃ z, T488.heap = z := ⟨_, rfl⟩
 rw [e488] at hQ488
 obtain ⟨rfl, N488q, K488, A488, Fc488, t488, kb488, u488, lo488, nt488, Fv488, V488⟩ := hQ488
 have N488 := Fr.app N478 N488q
 have C489 : CHr Z EL1 s.vm h0 s.vm h488 := C479.trans (CHr.keep K488 (sfS f487 sf0) C479.1)
 have sz488 : h478.size ≤ h488.size := K488.1
 have nz488 := Nat.le_trans nz478 sz488
 have lt488 := ltA V488.lt
 have hcd488 : StrChars.Road.CodA ([c0, c1] : List Int32) 0 (2 : Int32) ((([c0, c1] : List Int32).map (fun c => c.toInt8.toInt32)).map Value.int) := own_codn rfl (fun c hc => ((own_allS rc0 (own_allS rc1 own_all0)) c hc).2)
 have V490 : Arv Z h488 t488 kb488 .byte (2 : Int32) [(.int (c0.toInt8.toInt32)), (.int (c1.toInt8.toInt32))] (.int 0) := V488
 have pre491 : ∀ t, GO p e below T488 (mkF m 41 (la23 p0 p1 p2 p3 p4 c0 c1 b467) [(.int (p2 &&& (1 : Int32)))]) t → GO p e below s₁ (entryFrame m #[(.int p0), (.int p1), (.int p2), (.int p3), (.int p4)] maxLocals) t := by
  intro t kt
  refine pre0 t ?_
  show GO p e below s₁ (mkF m 0 (la20 p0 p1 p2 p3 p4) []) _
  refine XS.iloadN X0.here hx rfl (hb hby at_0) rfl ?_
  show GO p e below s₁ (mkF m 1 (la20 p0 p1 p2 p3 p4) [(.int p0)]) _
  refine XS.sipush X0.here hx rfl (hb hby at_1) ?_
  show GO p e below s₁ (mkF m 4 (la20 p0 p1 p2 p3 p4) [(.int 255), (.int p0)]) _
  refine XS.iand X0.here hx rfl (hb hby at_4) rfl ?_
  show GO p e below s₁ (mkF m 5 (la20 p0 p1 p2 p3 p4) [(.int (p0 &&& (255 : Int32)))]) _
  refine XS.i2c X0.here hx rfl (hb hby at_5) rfl ?_
  show GO p e below s₁ (mkF m 6 (la20 p0 p1 p2 p3 p4) [(.int ((p0 &&& (255 : Int32)).toUInt32.toUInt16.toUInt32.toInt32))]) _
  refine XS.istore X0.here hx rfl (hb hby at_6) rfl (l' := (la21 p0 p1 p2 p3 p4 ((p0 &&& (255 : Int32)).toUInt32.toUInt16.toUInt32.toInt32))) rfl ?_
  show GO p e below s₁ (mkF m 8 (la21 p0 p1 p2 p3 p4 ((p0 &&& (255 : Int32)).toUInt32.toUInt16.toUInt32.toInt32)) []) _
  refine XS.iloadN X0.here hx rfl (hb hby at_8) rfl ?_
  show GO p e below s₁ (mkF m 9 (la21 p0 p1 p2 p3 p4 ((p0 &&& (255 : Int32)).toUInt32.toUInt16.toUInt32.toInt32)) [(.int p1)]) _
  refine XS.sipush X0.here hx rfl (hb hby at_9) ?_
  show GO p e below s₁ (mkF m 12 (la21 p0 p1 p2 p3 p4 ((p0 &&& (255 : Int32)).toUInt32.toUInt16.toUInt32.toInt32)) [(.int 255), (.int p1)]) _
  refine XS.iand X0.here hx rfl (hb hby at_12) rfl ?_
  show GO p e below s₁ (mkF m 13 (la21 p0 p1 p2 p3 p4 ((p0 &&& (255 : Int32)).toUInt32.toUInt16.toUInt32.toInt32)) [(.int (p1 &&& (255 : Int32)))]) _
  refine XS.i2c X0.here hx rfl (hb hby at_13) rfl ?_
  show GO p e below s₁ (mkF m 14 (la21 p0 p1 p2 p3 p4 ((p0 &&& (255 : Int32)).toUInt32.toUInt16.toUInt32.toInt32)) [(.int ((p1 &&& (255 : Int32)).toUInt32.toUInt16.toUInt32.toInt32))]) _
  refine XS.istore X0.here hx rfl (hb hby at_14) rfl (l' := (la22 p0 p1 p2 p3 p4 ((p0 &&& (255 : Int32)).toUInt32.toUInt16.toUInt32.toInt32) ((p1 &&& (255 : Int32)).toUInt32.toUInt16.toUInt32.toInt32))) rfl ?_
  rw [← hc0]
  rw [← hc1]
  show GO p e below s₁ (mkF m 16 (la22 p0 p1 p2 p3 p4 c0 c1) []) _
  refine st467 _ ?_
  show GO p e below T467 (mkF m 19 (la22 p0 p1 p2 p3 p4 c0 c1) [(.ref b467)]) _
  refine XS.dup X467.here hx rfl (hb hby at_19) rfl rfl ?_
  show GO p e below T467 (mkF m 20 (la22 p0 p1 p2 p3 p4 c0 c1) [(.ref b467), (.ref b467)]) _
  refine XS.iconst X467.here hx rfl (hb hby at_20) ?_
  show GO p e below T467 (mkF m 21 (la22 p0 p1 p2 p3 p4 c0 c1) [(.int 2), (.ref b467), (.ref b467)]) _
  refine st471 _ ?_
  show GO p e below T471 (mkF m 23 (la22 p0 p1 p2 p3 p4 c0 c1) [(.ref b471), (.ref b467), (.ref b467)]) _
  refine XS.dup X471.here hx rfl (hb hby at_23) rfl rfl ?_
  show GO p e below T471 (mkF m 24 (la22 p0 p1 p2 p3 p4 c0 c1) [(.ref b471), (.ref b471), (.ref b467), (.ref b467)]) _
  refine XS.iconst X471.here hx rfl (hb hby at_24) ?_
  show GO p e below T471 (mkF m 25 (la22 p0 p1 p2 p3 p4 c0 c1) [(.int 0), (.ref b471), (.ref b471), (.ref b467), (.ref b467)]) _
  refine XS.iload X471.here hx rfl (hb hby at_25) rfl ?_
  show GO p e below T471 (mkF m 27 (la22 p0 p1 p2 p3 p4 c0 c1) [(.int c0), (.int 0), (.ref b471), (.ref b471), (.ref b467), (.ref b467)]) _
  refine st474 _ ?_
  show GO p e below T474 (mkF m 28 (la22 p0 p1 p2 p3 p4 c0 c1) [(.ref b471), (.ref b467), (.ref b467)]) _
  refine XS.dup X474.here hx rfl (hb hby at_28) rfl rfl ?_
  show GO p e below T474 (mkF m 29 (la22 p0 p1 p2 p3 p4 c0 c1) [(.ref b471), (.ref b471), (.ref b467), (.ref b467)]) _
  refine XS.iconst X474.here hx rfl (hb hby at_29) ?_
  show GO p e below T474 (mkF m 30 (la22 p0 p1 p2 p3 p4 c0 c1) [(.int 1), (.ref b471), (.ref b471), (.ref b467), (.ref b467)]) _
  refine XS.iload X474.here hx rfl (hb hby at_30) rfl ?_
  show GO p e below T474 (mkF m 32 (la22 p0 p1 p2 p3 p4 c0 c1) [(.int c1), (.int 1), (.ref b471), (.ref b471), (.ref b467), (.ref b467)]) _
  refine st478 _ ?_
  show GO p e below T478 (mkF m 33 (la22 p0 p1 p2 p3 p4 c0 c1) [(.ref b471), (.ref b467), (.ref b467)]) _
  refine st488.trans ?_
  show GO p e below T488 (mkF m 36 (la22 p0 p1 p2 p3 p4 c0 c1) [(.ref b467)]) _
  refine XS.astore X488.here hx rfl (hb hby at_36) rfl rfl (l' := (la23 p0 p1 p2 p3 p4 c0 c1 b467)) rfl ?_
  show GO p e below T488 (mkF m 38 (la23 p0 p1 p2 p3 p4 c0 c1 b467) []) _
  refine XS.iloadN X488.here hx rfl (hb hby at_38) rfl ?_
  show GO p e below T488 (mkF m 39 (la23 p0 p1 p2 p3 p4 c0 c1 b467) [(.int p2)]) _
  refine XS.iconst X488.here hx rfl (hb hby at_39) ?_
  show GO p e below T488 (mkF m 40 (la23 p0 p1 p2 p3 p4 c0 c1 b467) [(.int 1), (.int p2)]) _
  refine XS.iand X488.here hx rfl (hb hby at_40) rfl ?_
  exact kt
 by_cases hb492 : (p2 &&& (1 : Int32)) = (0 : Int32)
 ·-- pc 74: Optional.empty by rm_oe
  have ge494 : n0 ≤ b467 := by omega
  have f495 : Old Z n0 h488 := (f485.keep K488 (allS ge494 all0))
  obtain ⟨_, _, ⟨T493, L493, k493, n493⟩, -, X493, ⟨Lc493, hQ493, l493, y493, z493⟩, st493⟩ := Jvm.LawKit.callS X488 hx (y := (⟨"java/util/Optional", "empty", "()Ljava/util/Optional;"⟩ : MethodName)) hown (mvT hZ (wd hw 30 rfl)) (mvT hZ (wd hw 31 rfl)) (mvT hZ (wd hw 32 rfl)) (mvT hZ (wd hw 33 rfl)) (by decide) (backOf (W := 0) (rm_oe l Z a0 hw [] q0 h488 n0 nz488 f495 HO) hZ (wd hw 33 rfl) (wd hw 32 rfl) (by decide) (by decide)) (g := (mkF m 74 (la24 p0 p1 p2 p3 p4 c0 c1 b467 (0 : Int32)) [])) rfl (by rw [hml]; rfl) (argsL := []) (rest := []) (lenOf pd_26 rfl) rfl (wz rfl) (hb hby at_74) (fun _ _ => ⟨rfl, e488, (by decide : 3 + 0 ≤ _), (by decide : 8 + 0 ≤ _)⟩)
  dsimp only [Pt.U, Pt.locs, Pt.cells, Pt.slots] at X493 l493 y493 z493 st493 hQ493
  rw [l493, y493, z493] at X493
  obtain ⟨rfl, N493q, e493⟩ := hQ493
  have N493 := Fr.app N488 N493q
  obtain ⟨SZo, SZoe, SZov⟩ := id HO
  obtain ⟨T496, h496, X496, e496, E496, A496, D496, U496, st496⟩ := newO X493 hx hZ hown (wd hw 35 rfl) (wd hw 36 rfl) (wd hw 37 rfl) e493 (g := (mkF m 79 (la25 p0 p1 p2 p3 p4 c0 c1 b467 (0 : Int32) q0) [])) rfl (hb hby at_79) (by decide) (by decide)
  obtain ⟨b496, g496⟩ : ∃ z, z = h488.size := ⟨_, rfl⟩
  rw [← g496] at A496 D496 U496 st496
  have C497 : CHr Z EL1 s.vm h0 s.vm h496 := C489.trans (CHr.ext E496 C489.1)
  have sz496 : h488.size ≤ h496.size := E496.1
  have nz496 := Nat.le_trans nz488 sz496
  have lt496 := ltA A496.lt
  have f498 : Fld Z h496 b496 "com/example/lease/lease/store/KeyRange" "from" "Ljava/lang/String;" .null := D496 (Or.inr (wd hw 62 rfl)) (ty := (.object kS1)) (by decide)
  have f499 : Fld Z h496 b496 "com/example/lease/lease/store/KeyRange" "below" "Ljava/util/Optional;" .null := D496 (Or.inr (wd hw 64 rfl)) (ty := (.object "java/util/Optional")) (by decide)
  -- pc 89: String.valueOf by rm_vo
  have f501 : Old Z n0 h496 := (f495.ext E496)
  obtain ⟨_, _, ⟨T500, L500, k500, n500⟩, -, X500, ⟨Lc500, hQ500, l500, y500, z500⟩, st500⟩ := Jvm.LawKit.callS X496 hx (y := (⟨kS1, "valueOf", "(C)Ljava/lang/String;"⟩ : MethodName)) hown (mvT hZ (wd hw 38 rfl)) (mvT hZ (wd hw 39 rfl)) (mvT hZ (wd hw 2 rfl)) (mvT hZ (wd hw 40 rfl)) (by decide) (backOf (W := 2) (rm_vo l Z a0 hw [] ((p3 &&& (255 : Int32)).toUInt32.toUInt16.toUInt32.toInt32) z0 h496 n0 nz496 f501 (by first | assumption | decide | omega) (by first | assumption | decide | omega) (own_ch _).1) hZ (wd hw 40 rfl) (wd hw 2 rfl) (by decide) (by decide)) (g := (mkF m 89 (la25 p0 p1 p2 p3 p4 c0 c1 b467 (0 : Int32) q0) [(.int ((p3 &&& (255 : Int32)).toUInt32.toUInt16.toUInt32.toInt32)), (.ref b496), (.ref b496)])) rfl (by rw [hml]; rfl) (argsL := [(.int ((p3 &&& (255 : Int32)).toUInt32.toUInt16.toUInt32.toInt32))]) (rest := [(.ref b496), (.ref b496)]) (lenOf pd_27 rfl) rfl (wz rfl) (hb hby at_89) (fun _ _ => ⟨rfl, e496, (by decide : 4 + 2 ≤ _), (by decide : 10 + 5 ≤ _)⟩)
  dsimp only [Pt.U, Pt.locs, Pt.cells, Pt.slots] at X500 l500 y500 z500 st500 hQ500
  rw [l500, y500, z500] at X500
  obtain ⟨h500, e500⟩ : ∃ z, T500.heap = z := ⟨_, rfl⟩
  rw [e500] at hQ500
  obtain ⟨x_500, rfl, N500q, K500, p500_0⟩ := hQ500
  have N500 := Fr.app N493 N500q
  have C502 : CHr Z EL1 s.vm h0 s.vm h500 := C497.trans (CHr.keep K500 sf0 C497.1)
  have sz500 : h496.size ≤ h500.size := K500.1
  have nz500 := Nat.le_trans nz496 sz500
  have lt500_0 := ltA p500_0.lt
  -- pc 94: KeyRange.<init> by rm_ki
  have f504 : Exa Z h500 b496 "com/example/lease/lease/store/KeyRange" := (A496.keep K500)
  have f505 : Fld Z h500 b496 "com/example/lease/lease/store/KeyRange" "from" "Ljava/lang/String;" .null := (f498.keep K500 nin0)
  have f506 : Fld Z h500 b496 "com/example/lease/lease/store/KeyRange" "below" "Ljava/util/Optional;" .null := (f499.keep K500 nin0)
  obtain ⟨_, _, ⟨T503, L503, k503, n503⟩, -, X503, ⟨Lc503, hQ503, l503, y503, z503⟩, st503⟩ := X500.specialBack hx (y := (⟨"com/example/lease/lease/store/KeyRange", "<init>", "(Ljava/lang/String;Ljava/util/Optional;)V"⟩ : MethodName)) rfl hown (mvT hZ (wd hw 52 rfl)) (mvT hZ (wd hw 53 rfl)) (mvT hZ (wd hw 54 rfl)) (by decide) (backOf (W := 1) (rm_ki l Z a0 hw [] b496 x_500 q0 .null .null h500 n0 nz500 f504 f505 f506 (by first | assumption | decide | omega)) hZ (wd hw 54 rfl) (wd hw 37 rfl) (by decide) (by decide)) (g := (mkF m 94 (la25 p0 p1 p2 p3 p4 c0 c1 b467 (0 : Int32) q0) [(.ref q0), (.ref x_500), (.ref b496), (.ref b496)])) rfl (by rw [hml]; rfl) (Steps.refl _) (a := b496) (argsL := [(.ref x_500), (.ref q0)]) (rest := [(.ref b496)]) (lenOf pd_28 rfl) rfl (wz rfl) (hb hby at_94) (fun _ _ => ⟨rfl, e500, (by decide : 6 + 0 ≤ _), (by decide : 15 + 0 ≤ _)⟩)
  dsimp only [Pt.U, Pt.locs, Pt.cells, Pt.slots] at X503 l503 y503 z503 st503 hQ503
  rw [l503, y503, z503] at X503
  obtain ⟨h503, e503⟩ : ∃ z, T503.heap = z := ⟨_, rfl⟩
  rw [e503] at hQ503
  obtain ⟨rfl, N503q, K503, p503_0, p503_1⟩ := hQ503
  have N503 := Fr.app N500 N503q
  have C507 : CHr Z EL1 s.vm h0 s.vm h503 := C502.trans (CHr.keep K503 (sfS (Safe.exa hZ.alike f504 (by decide) (by decide)) sf0) C502.1)
  have sz503 : h500.size ≤ h503.size := K503.1
  have nz503 := Nat.le_trans nz500 sz503
  have lt503_0 := ltA p503_0.lt
  -- pc 103: KeyRange.condition by rm_cond0
  have ge509 : n0 ≤ b496 := by omega
  have f510 : Old Z n0 h503 := ((f501.keep K500 all0).keep K503 (allS ge509 all0))
  have f511 : Exa Z h503 b467 kS1 := (((A488.ext E496).keep K500).keep K503)
  have ne512 : b467 ≠ b496 := neN (by omega)
  have f513 : Fld Z h503 b467 kS1 "coder" "B" (.int 0) := (((Fc488.ext E496).keep K500 nin0).keep K503 (ninS ne512 nin0))
  have f514 : Fld Z h503 b467 kS1 "value" "[B" (.ref t488) := (((Fv488.ext E496).keep K500 nin0).keep K503 (ninS ne512 nin0))
  have ne515 : t488 ≠ b496 := neN (by omega)
  have f516 : Arv Z h503 t488 kb488 .byte (2 : Int32) [(.int (c0.toInt8.toInt32)), (.int (c1.toInt8.toInt32))] (.int 0) := (((V490.ext E496).keep K500 nin0).keep K503 (ninS ne515 nin0))
  have S517 : Exa Z h503 q0 "java/util/Optional" := SZoe.ext f510.2
  have S518 : Fld Z h503 q0 "java/util/Optional" "value" "Ljava/lang/Object;" .null := SZov.ext f510.2
  obtain ⟨cq508, kq508, q508a, q508b, q508c⟩ := isOf hZ e503 p503_0
  obtain ⟨_, _, ⟨T508, L508, k508, n508⟩, -, X508w, hS508w, gr508, ⟨Lc508, hQ508, l508, y508, z508, C508w⟩, st508⟩ := X503.virtualBackS hx (y := (⟨"com/example/lease/lease/store/KeyRange", "condition", "(Ljava/lang/String;)Ljava/lang/String;"⟩ : MethodName)) (z := (⟨"com/example/lease/lease/store/KeyRange", "condition", "(Ljava/lang/String;)Ljava/lang/String;"⟩ : MethodName)) hown (mvT hZ (wd hw 65 rfl)) (mvT hZ (wd hw 66 rfl)) (notFace_of_selects (args := #[]) (mvT hZ (wd hw 68 rfl))) (mvT hZ (wd hw 68 rfl)) (mvT hZ (wd hw 67 rfl)) (by decide) (own_backS (W := 0) (rm_cond0 l Z a0 hw [] b467 t488 kb488 (c0.toInt8.toInt32) (c1.toInt8.toInt32) b496 q0 z0 h503 n0 nz503 f510 f511 f513 f514 f516 p503_1 S517 S518 (by first | assumption | decide | omega) (by first | assumption | decide | omega)) hZ (wd hw 69 rfl) (wd hw 37 rfl) (by decide) (by decide) (own_EW hw) C507.1 sf0 all0) q508a q508c (g := (mkF m 103 (la26 p0 p1 p2 p3 p4 c0 c1 b467 (0 : Int32) q0 b496) [(.ref b467), (.ref b496)])) rfl (by rw [hml]; rfl) (Steps.refl _) (argsL := [(.ref b467)]) (rest := []) (lenOf pd_29 rfl) rfl (wz rfl) (hb hby at_103) (fun _ _ => ⟨rfl, e503, (by decide : 6 + 6 ≤ _), (by decide : 15 + 55 ≤ _)⟩)
  dsimp only [Pt.U, Pt.locs, Pt.cells, Pt.slots] at X508w hS508w gr508 l508 y508 z508 st508 hQ508 C508w
  rw [l508, y508, z508] at X508w
  obtain ⟨X508, hS508, hZ508, hown508⟩ := rebS hS0 (by rw [e503]; omega) X508w hS508w gr508 hZ hown
  obtain ⟨h508, e508⟩ : ∃ z, T508.heap = z := ⟨_, rfl⟩
  rw [e508] at hQ508
  obtain ⟨x_508, t_508, k_508, rfl, N508q, K508, p508_0, p508_1, p508_2, p508_3⟩ := hQ508
  have N508 := Fr.app N503 N508q
  rw [e508] at C508w hS508
  have hk508 : h508.size ≤ h508.size := Nat.le_refl _
  have C519 : CHr Z EL1 s.vm h0 T508.vm h508 := C507.trans (C508w)
  have sz508 : h503.size ≤ h508.size := K508.1
  have nz508 := Nat.le_trans nz503 sz508
  have lt508_0 := ltA p508_0.lt
  have lt508_3 := ltA p508_3.lt
  have hal : ∀ c ∈ ([c0, c1, (32 : Int32), (62 : Int32), (61 : Int32), (32 : Int32), (63 : Int32)] : List Int32), ¬ c < 0 ∧ ¬ (255 : Int32) < c := (own_allS rc0 (own_allS rc1 (own_allS (by decide) (own_allS (by decide) (own_allS (by decide) (own_allS (by decide) (own_allS (by decide) own_all0)))))))
  have hcg : StrChars.Road.CodA ([c0, c1, (32 : Int32), (62 : Int32), (61 : Int32), (32 : Int32), (63 : Int32)] : List Int32) 0 (7 : Int32) [(.int (c0.toInt8.toInt32)), (.int (c1.toInt8.toInt32)), (.int 32), (.int 62), (.int 61), (.int 32), (.int 63)] := Or.inl ⟨rfl, rfl, rfl, fun c hc => (hal c hc).2⟩
  obtain ⟨T520, h520, k520, X520, e520, E520, A520, st520⟩ := newP X508 hx hZ508 (wd hw 3 rfl) e508 (g := (mkF m 226 (la27 p0 p1 p2 p3 p4 c0 c1 b467 (0 : Int32) q0 b496 x_508) [(.int 7)])) rfl (hb hby at_226) rfl (by decide) (cap := 7) (by decide) (by decide) (by decide) (by decide)
  obtain ⟨b520, g520⟩ : ∃ z, z = h508.size := ⟨_, rfl⟩
  rw [← g520] at A520 st520
  have C521 : CHr Z EL1 s.vm h0 T508.vm h520 := C519.trans (CHr.ext E520 C519.1)
  have sz520 : h508.size ≤ h520.size := E520.1
  have nz520 := Nat.le_trans nz508 sz520
  have lt520 := ltA A520.lt
  have V520 : Arv Z h520 b520 k520 .char (7 : Int32) [(.int 0), (.int 0), (.int 0), (.int 0), (.int 0), (.int 0), (.int 0)] (.int 0) := (Arv.new A520 (by decide)).pad (pad_rep [] (.int 0) 7)
  obtain ⟨cl522, Ar522, q522, S522, M522, H522, G522⟩ := id V520
  have hin522 : ¬ ((0 : Int32) < 0 ∨ cl522.slots.size ≤ ((0 : Int32)).toNatClampNeg) := inb_of S522 ⟨by decide, by decide⟩
  obtain ⟨T523, h523, X523, e523, W523, st523⟩ := stC X520 hx hZ508 e520 Ar522 (j := (0 : Int32)) hin522 (g := (mkF m 232 (la27 p0 p1 p2 p3 p4 c0 c1 b467 (0 : Int32) q0 b496 x_508) [(.int c0), (.int 0), (.ref b520), (.ref b520)])) rfl rfl (hb hby at_232)
  have ge524 : n0 ≤ b520 := by omega
  have N523 := Fr.snoc X523 N508 ge524
  have f525 : Exa Z h520 x_508 kS1 := (p508_0.ext E520)
  have ne526 : b520 ≠ x_508 := Ne.symm (Exa.neArv f525 V520 (wd hw 1 rfl))
  have C527 : CHr Z EL1 s.vm h0 T508.vm h523 := C521.trans (CHr.wr W523 (Safe.arv hZ508.alike V520 (by decide)) C521.1)
  have sz523 : h520.size ≤ h523.size := Nat.le_of_eq W523.size.symm
  have nz523 := Nat.le_trans nz520 sz523
  have V523 : Arv Z h523 b520 k520 .char (7 : Int32) [(.int (nar .char c0)), (.int 0), (.int 0), (.int 0), (.int 0), (.int 0), (.int 0)] (.int 0) := Arv.set Ar522 q522 S522 M522 H522 G522 (fits_nar_char _) W523 0 rfl (Nat.le_of_ble_eq_true rfl)
  obtain ⟨cl528, Ar528, q528, S528, M528, H528, G528⟩ := id V523
  have hin528 : ¬ ((1 : Int32) < 0 ∨ cl528.slots.size ≤ ((1 : Int32)).toNatClampNeg) := inb_of S528 ⟨by decide, by decide⟩
  obtain ⟨T529, h529, X529, e529, W529, st529⟩ := stC X523 hx hZ508 e523 Ar528 (j := (1 : Int32)) hin528 (g := (mkF m 237 (la27 p0 p1 p2 p3 p4 c0 c1 b467 (0 : Int32) q0 b496 x_508) [(.int c1), (.int 1), (.ref b520), (.ref b520)])) rfl rfl (hb hby at_237)
  have N529 := Fr.snoc X529 N523 ge524
  have C530 : CHr Z EL1 s.vm h0 T508.vm h529 := C527.trans (CHr.wr W529 (Safe.arv hZ508.alike V523 (by decide)) C527.1)
  have sz529 : h523.size ≤ h529.size := Nat.le_of_eq W529.size.symm
  have nz529 := Nat.le_trans nz523 sz529
  have V529 : Arv Z h529 b520 k520 .char (7 : Int32) [(.int (nar .char c0)), (.int (nar .char c1)), (.int 0), (.int 0), (.int 0), (.int 0), (.int 0)] (.int 0) := Arv.set Ar528 q528 S528 M528 H528 G528 (fits_nar_char _) W529 1 rfl (Nat.le_of_ble_eq_true rfl)
  obtain ⟨cl531, Ar531, q531, S531, M531, H531, G531⟩ := id V529
  have hin531 : ¬ ((2 : Int32) < 0 ∨ cl531.slots.size ≤ ((2 : Int32)).toNatClampNeg) := inb_of S531 ⟨by decide, by decide⟩
  obtain ⟨T532, h532, X532, e532, W532, st532⟩ := stC X529 hx hZ508 e529 Ar531 (j := (2 : Int32)) hin531 (g := (mkF m 242 (la27 p0 p1 p2 p3 p4 c0 c1 b467 (0 : Int32) q0 b496 x_508) [(.int 32), (.int 2), (.ref b520), (.ref b520)])) rfl rfl (hb hby at_242)
  have N532 := Fr.snoc X532 N529 ge524
  have C533 : CHr Z EL1 s.vm h0 T508.vm h532 := C530.trans (CHr.wr W532 (Safe.arv hZ508.alike V529 (by decide)) C530.1)
  have sz532 : h529.size ≤ h532.size := Nat.le_of_eq W532.size.symm
  have nz532 := Nat.le_trans nz529 sz532
  have V532 : Arv Z h532 b520 k520 .char (7 : Int32) [(.int (nar .char c0)), (.int (nar .char c1)), (.int (nar .char (32 : Int32))), (.int 0), (.int 0), (.int 0), (.int 0)] (.int 0) := Arv.set Ar531 q531 S531 M531 H531 G531 (fits_nar_char _) W532 2 rfl (Nat.le_of_ble_eq_true rfl)
  obtain ⟨cl534, Ar534, q534, S534, M534, H534, G534⟩ := id V532
  have hin534 : ¬ ((3 : Int32) < 0 ∨ cl534.slots.size ≤ ((3 : Int32)).toNatClampNeg) := inb_of S534 ⟨by decide, by decide⟩
  obtain ⟨T535, h535, X535, e535, W535, st535⟩ := stC X532 hx hZ508 e532 Ar534 (j := (3 : Int32)) hin534 (g := (mkF m 247 (la27 p0 p1 p2 p3 p4 c0 c1 b467 (0 : Int32) q0 b496 x_508) [(.int 62), (.int 3), (.ref b520), (.ref b520)])) rfl rfl (hb hby at_247)
  have N535 := Fr.snoc X535 N532 ge524
  have C536 : CHr Z EL1 s.vm h0 T508.vm h535 := C533.trans (CHr.wr W535 (Safe.arv hZ508.alike V532 (by decide)) C533.1)
  have sz535 : h532.size ≤ h535.size := Nat.le_of_eq W535.size.symm
  have nz535 := Nat.le_trans nz532 sz535
  have V535 : Arv Z h535 b520 k520 .char (7 : Int32) [(.int (nar .char c0)), (.int (nar .char c1)), (.int (nar .char (32 : Int32))), (.int (nar .char (62 : Int32))), (.int 0), (.int 0), (.int 0)] (.int 0) := Arv.set Ar534 q534 S534 M534 H534 G534 (fits_nar_char _) W535 3 rfl (Nat.le_of_ble_eq_true rfl)
  obtain ⟨cl537, Ar537, q537, S537, M537, H537, G537⟩ := id V535
  have hin537 : ¬ ((4 : Int32) < 0 ∨ cl537.slots.size ≤ ((4 : Int32)).toNatClampNeg) := inb_of S537 ⟨by decide, by decide⟩
  obtain ⟨T538, h538, X538, e538, W538, st538⟩ := stC X535 hx hZ508 e535 Ar537 (j := (4 : Int32)) hin537 (g := (mkF m 252 (la27 p0 p1 p2 p3 p4 c0 c1 b467 (0 : Int32) q0 b496 x_508) [(.int 61), (.int 4), (.ref b520), (.ref b520)])) rfl rfl (hb hby at_252)
  have N538 := Fr.snoc X538 N535 ge524
  have C539 : CHr Z EL1 s.vm h0 T508.vm h538 := C536.trans (CHr.wr W538 (Safe.arv hZ508.alike V535 (by decide)) C536.1)
  have sz538 : h535.size ≤ h538.size := Nat.le_of_eq W538.size.symm
  have nz538 := Nat.le_trans nz535 sz538
  have V538 : Arv Z h538 b520 k520 .char (7 : Int32) [(.int (nar .char c0)), (.int (nar .char c1)), (.int (nar .char (32 : Int32))), (.int (nar .char (62 : Int32))), (.int (nar .char (61 : Int32))), (.int 0), (.int 0)] (.int 0) := Arv.set Ar537 q537 S537 M537 H537 G537 (fits_nar_char _) W538 4 rfl (Nat.le_of_ble_eq_true rfl)
  obtain ⟨cl540, Ar540, q540, S540, M540, H540, G540⟩ := id V538
  have hin540 : ¬ ((5 : Int32) < 0 ∨ cl540.slots.size ≤ ((5 : Int32)).toNatClampNeg) := inb_of S540 ⟨by decide, by decide⟩
  obtain ⟨T541, h541, X541, e541, W541, st541⟩ := stC X538 hx hZ508 e538 Ar540 (j := (5 : Int32)) hin540 (g := (mkF m 257 (la27 p0 p1 p2 p3 p4 c0 c1 b467 (0 : Int32) q0 b496 x_508) [(.int 32), (.int 5), (.ref b520), (.ref b520)])) rfl rfl (hb hby at_257)
  have N541 := Fr.snoc X541 N538 ge524
  have C542 : CHr Z EL1 s.vm h0 T508.vm h541 := C539.trans (CHr.wr W541 (Safe.arv hZ508.alike V538 (by decide)) C539.1)
  have sz541 : h538.size ≤ h541.size := Nat.le_of_eq W541.size.symm
  have nz541 := Nat.le_trans nz538 sz541
  have V541 : Arv Z h541 b520 k520 .char (7 : Int32) [(.int (nar .char c0)), (.int (nar .char c1)), (.int (nar .char (32 : Int32))), (.int (nar .char (62 : Int32))), (.int (nar .char (61 : Int32))), (.int (nar .char (32 : Int32))), (.int 0)] (.int 0) := Arv.set Ar540 q540 S540 M540 H540 G540 (fits_nar_char _) W541 5 rfl (Nat.le_of_ble_eq_true rfl)
  obtain ⟨cl543, Ar543, q543, S543, M543, H543, G543⟩ := id V541
  have hin543 : ¬ ((6 : Int32) < 0 ∨ cl543.slots.size ≤ ((6 : Int32)).toNatClampNeg) := inb_of S543 ⟨by decide, by decide⟩
  obtain ⟨T544, h544, X544, e544, W544, st544⟩ := stC X541 hx hZ508 e541 Ar543 (j := (6 : Int32)) hin543 (g := (mkF m 263 (la27 p0 p1 p2 p3 p4 c0 c1 b467 (0 : Int32) q0 b496 x_508) [(.int 63), (.int 6), (.ref b520), (.ref b520)])) rfl rfl (hb hby at_263)
  have N544 := Fr.snoc X544 N541 ge524
  have C545 : CHr Z EL1 s.vm h0 T508.vm h544 := C542.trans (CHr.wr W544 (Safe.arv hZ508.alike V541 (by decide)) C542.1)
  have sz544 : h541.size ≤ h544.size := Nat.le_of_eq W544.size.symm
  have nz544 := Nat.le_trans nz541 sz544
  have V544 : Arv Z h544 b520 k520 .char (7 : Int32) [(.int (nar .char c0)), (.int (nar .char c1)), (.int (nar .char (32 : Int32))), (.int (nar .char (62 : Int32))), (.int (nar .char (61 : Int32))), (.int (nar .char (32 : Int32))), (.int (nar .char (63 : Int32)))] (.int 0) := Arv.set Ar543 q543 S543 M543 H543 G543 (fits_nar_char _) W544 6 rfl (Nat.le_of_ble_eq_true rfl)
  obtain ⟨T546, h546, X546, e546, E546, A546, D546, U546, st546⟩ := newO X544 hx hZ508 hown508 (wd hw 0 rfl) (wd hw 1 rfl) (wd hw 2 rfl) e544 (g := (mkF m 273 (la28 p0 p1 p2 p3 p4 c0 c1 b467 (0 : Int32) q0 b496 x_508 b520) [(.ref x_508)])) rfl (hb hby at_273) (by decide) (by decide)
  obtain ⟨b546, g546⟩ : ∃ z, z = h544.size := ⟨_, rfl⟩
  rw [← g546] at A546 D546 U546 st546
  have C547 : CHr Z EL1 s.vm h0 T508.vm h546 := C545.trans (CHr.ext E546 C545.1)
  have sz546 : h544.size ≤ h546.size := E546.1
  have nz546 := Nat.le_trans nz544 sz546
  have lt546 := ltA A546.lt
  have B546 : Safe Z EL1 T508.vm h546 b546 := Safe.ext E546 C545.1 (Safe.new (by omega))
  have f548 : Fld Z h546 b546 kS1 "coder" "B" (.int 0) := D546 (Or.inr (wd hw 27 rfl)) (ty := .byte) (by decide)
  have f549 : Fld Z h546 b546 kS1 "value" "[B" .null := D546 (Or.inr (wd hw 29 rfl)) (ty := (.array .byte)) (by decide)
  have f550 : Arv Z h546 b520 k520 .char (7 : Int32) [(.int (nar .char c0)), (.int (nar .char c1)), (.int (nar .char (32 : Int32))), (.int (nar .char (62 : Int32))), (.int (nar .char (61 : Int32))), (.int (nar .char (32 : Int32))), (.int (nar .char (63 : Int32)))] (.int 0) := (V544.ext E546)
  have V551 : Arv Z h546 b520 k520 .char (7 : Int32) [(.int c0), (.int c1), (.int 32), (.int 62), (.int 61), (.int 32), (.int 63)] (.int 0) := by
   have q := f550
   rw [qc0, qc1, show nar .char (32 : Int32) = (32 : Int32) from by decide, show nar .char (62 : Int32) = (62 : Int32) from by decide, show nar .char (61 : Int32) = (61 : Int32) from by decide, show nar .char (63 : Int32) = (63 : Int32) from by decide] at q
   exact q
  have f552 : Old Z n0 h546 := ((((((((((f510.keep K508 all0).ext E520).wr W523 ge524).wr W529 ge524).wr W532 ge524).wr W535 ge524).wr W538 ge524).wr W541 ge524).wr W544 ge524).ext E546)
  have S553 : Sta Z h546 kS1 "COMPACT_STRINGS" "Z" (.int z0) := SZc.ext f552.2
  obtain ⟨v554, _, ⟨T554, L554, k554, n554⟩, -, X554, ⟨Lc554, hQ554, l554, y554, z554⟩, st554⟩ := X546.specialBack hx (y := (⟨kS1, "<init>", "([C)V"⟩ : MethodName)) rfl hown508 (mvT hZ508 (wd hw 4 rfl)) (mvT hZ508 (wd hw 5 rfl)) (mvT hZ508 (wd hw 6 rfl)) (by decide) (StrChars.Road.backV (W := 2) hZ508 (own_hws hw) (kI := 4) (wd hw 1 rfl) (cs := ([c0, c1, (32 : Int32), (62 : Int32), (61 : Int32), (32 : Int32), (63 : Int32)] : List Int32)) (bs := ([c0, c1, (32 : Int32), (62 : Int32), (61 : Int32), (32 : Int32), (63 : Int32)] : List Int32).map (fun c => c.toInt8.toInt32)) (n := 7) (n0 := n0) (by omega) (by omega) A546 f549 f548 V551 S553 hz0 rfl rfl (by decide) (by decide) hal rfl (by decide) (by decide)) (g := (mkF m 279 (la28 p0 p1 p2 p3 p4 c0 c1 b467 (0 : Int32) q0 b496 x_508 b520) [(.ref b520), (.ref b546), (.ref b546), (.ref x_508)])) rfl (by rw [hml]; rfl) (Steps.refl _) (a := b546) (argsL := [(.ref b520)]) (rest := [(.ref b546), (.ref x_508)]) (lenOf pd_25 rfl) rfl (wz rfl) (hb hby at_279) (fun _ _ => ⟨rfl, e546, (by decide : 14 + 1 ≤ _), (by decide : 81 + 7 ≤ _)⟩)
  dsimp only [Pt.U, Pt.locs, Pt.cells, Pt.slots] at X554 l554 y554 z554 st554 hQ554
  rw [l554, y554, z554] at X554
  obtain ⟨h554, e554⟩ : ∃ z, T554.heap = z := ⟨_, rfl⟩
  rw [e554] at hQ554
  obtain ⟨rfl, N554q, K554, A554, Fc554, t554, kb554, u554, lo554, nt554, Fv554, V554⟩ := hQ554
  have N554 := Fr.app N544 N554q
  have ne555 : t_508 ≠ b520 := neN (by omega)
  have f556 : Arv Z h546 t_508 k_508 .byte (7 : Int32) [(.int (c0.toInt8.toInt32)), (.int (c1.toInt8.toInt32)), (.int 32), (.int 62), (.int 61), (.int 32), (.int 63)] (.int 0) := (((((((((p508_3.ext E520).other W523 ne555).other W529 ne555).other W532 ne555).other W535 ne555).other W538 ne555).other W541 ne555).other W544 ne555).ext E546)
  have ne557 : b546 ≠ t_508 := Exa.neArv A546 f556 (wd hw 1 rfl)
  have C558 : CHr Z EL1 s.vm h0 T508.vm h554 := C547.trans (CHr.keep K554 (sfS B546 sf0) C547.1)
  have sz554 : h546.size ≤ h554.size := K554.1
  have nz554 := Nat.le_trans nz546 sz554
  have lt554 := ltA V554.lt
  have hcd554 : StrChars.Road.CodA ([c0, c1, (32 : Int32), (62 : Int32), (61 : Int32), (32 : Int32), (63 : Int32)] : List Int32) 0 (7 : Int32) ((([c0, c1, (32 : Int32), (62 : Int32), (61 : Int32), (32 : Int32), (63 : Int32)] : List Int32).map (fun c => c.toInt8.toInt32)).map Value.int) := own_codn rfl (fun c hc => (hal c hc).2)
  have f559 : Exa Z h554 x_508 kS1 := (((((((((f525.wr W523).wr W529).wr W532).wr W535).wr W538).wr W541).wr W544).ext E546).keep K554)
  have ne560 : x_508 ≠ b546 := neN (by omega)
  have f561 : Fld Z h554 x_508 kS1 "value" "[B" (.ref t_508) := ((((((((((p508_2.ext E520).other W523 (Or.inl (Ne.symm ne526))).other W529 (Or.inl (Ne.symm ne526))).other W532 (Or.inl (Ne.symm ne526))).other W535 (Or.inl (Ne.symm ne526))).other W538 (Or.inl (Ne.symm ne526))).other W541 (Or.inl (Ne.symm ne526))).other W544 (Or.inl (Ne.symm ne526))).ext E546).keep K554 (ninS ne560 nin0))
  have f562 : Fld Z h554 x_508 kS1 "coder" "B" (.int 0) := ((((((((((p508_1.ext E520).other W523 (Or.inl (Ne.symm ne526))).other W529 (Or.inl (Ne.symm ne526))).other W532 (Or.inl (Ne.symm ne526))).other W535 (Or.inl (Ne.symm ne526))).other W538 (Or.inl (Ne.symm ne526))).other W541 (Or.inl (Ne.symm ne526))).other W544 (Or.inl (Ne.symm ne526))).ext E546).keep K554 (ninS ne560 nin0))
  have f563 : Arv Z h554 t_508 k_508 .byte (7 : Int32) [(.int (c0.toInt8.toInt32)), (.int (c1.toInt8.toInt32)), (.int 32), (.int 62), (.int 61), (.int 32), (.int 63)] (.int 0) := (f556.keep K554 (ninS (Ne.symm ne557) nin0))
  have ge564 : n0 ≤ b546 := by omega
  have f565 : Old Z n0 h554 := (f552.keep K554 (allS ge564 all0))
  have S566 : Sta Z h554 kS1 "COMPACT_STRINGS" "Z" (.int z0) := SZc.ext f565.2
  obtain ⟨cq567, kq567, q567a, q567b, q567c⟩ := isOf hZ508 e554 f559
  obtain ⟨v567, _, ⟨T567, L567, k567, n567⟩, -, X567, ⟨Lc567, hQ567, l567, y567, z567⟩, st567⟩ := X554.virtualBack hx (y := (⟨kS1, "equals", "(Ljava/lang/Object;)Z"⟩ : MethodName)) (z := (⟨kS1, "equals", "(Ljava/lang/Object;)Z"⟩ : MethodName)) hown508 (mvT hZ508 (wd hw 190 rfl)) (mvT hZ508 (wd hw 191 rfl)) (notFace_of_selects (args := #[]) (mvT hZ508 (wd hw 193 rfl))) (mvT hZ508 (wd hw 193 rfl)) (mvT hZ508 (wd hw 192 rfl)) (by decide) (StrChars.Road.eqW (W := 0) hZ508 (own_heq hw) (kI := 4) (wd hw 1 rfl) f559 f561 f562 f563 hcg (own_up hal) (Nat.le_of_ble_eq_true rfl) A554 Fv554 Fc554 V554 hcd554 (own_up hal) (Nat.le_of_ble_eq_true rfl) S566 hz0 (by decide) (by decide)) q567a q567c (g := (mkF m 282 (la28 p0 p1 p2 p3 p4 c0 c1 b467 (0 : Int32) q0 b496 x_508 b520) [(.ref b546), (.ref x_508)])) rfl (by rw [hml]; rfl) (Steps.refl _) (argsL := [(.ref b546)]) (rest := []) (lenOf pd_30 rfl) rfl (wz rfl) (hb hby at_282) (fun _ _ => ⟨rfl, e554, (by decide : 15 + 0 ≤ _), (by decide : 88 + 0 ≤ _)⟩)
  dsimp only [Pt.U, Pt.locs, Pt.cells, Pt.slots] at X567 l567 y567 z567 st567 hQ567
  rw [l567, y567, z567] at X567
  obtain ⟨hv567, rfl, e567⟩ := hQ567
  obtain rfl : v567 = some (.int (own_eqs ([c0, c1, (32 : Int32), (62 : Int32), (61 : Int32), (32 : Int32), (63 : Int32)] : List Int32) ([c0, c1, (32 : Int32), (62 : Int32), (61 : Int32), (32 : Int32), (63 : Int32)] : List Int32))) := by
   rcases hv567 with ⟨q, r⟩ | ⟨q, r⟩
   ·rw [q, own_eqs, if_pos r]
   ·rw [q, own_eqs, if_neg r]
  have N567 : Fr n0 _ := Fr.app N554 (Fr.nil n0)
  obtain ⟨fs, hr, hrun, hended, hE⟩ := X567.leaveW hS508 (by rw [e567]; omega) (v := some (.int 1)) (fun h => by rw [Bd.returns] at h; cases h)
  have CE := C558.trans (CHv.at X567 hZ508 (own_EW hw) C558.1)
  refine ⟨_, _, pre491 _ ?_, hrun, hended, _, _, rfl, ?_, ?_, ⟨hE.1, hE.2.1, hE.2.2.1, hE.2.2.2.mono (by decide) (by decide)⟩⟩
  ·show GO p e below T488 (mkF m 41 (la23 p0 p1 p2 p3 p4 c0 c1 b467) [(.int (p2 &&& (1 : Int32)))]) _
   refine XS.ifYes X488.here hx rfl (pc0 := 41) (pc' := 48) rfl (hb hby at_41) rfl ((if0 _ _).trans (teq (hb492 : (p2 &&& (1 : Int32)) = (0 : Int32))).1) (by decide) (by decide) ?_
   show GO p e below T488 (mkF m 48 (la23 p0 p1 p2 p3 p4 c0 c1 b467) []) _
   refine XS.iconst X488.here hx rfl (hb hby at_48) ?_
   show GO p e below T488 (mkF m 49 (la23 p0 p1 p2 p3 p4 c0 c1 b467) [(.int 0)]) _
   refine XS.istore X488.here hx rfl (hb hby at_49) rfl (l' := (la24 p0 p1 p2 p3 p4 c0 c1 b467 (0 : Int32))) rfl ?_
   show GO p e below T488 (mkF m 51 (la24 p0 p1 p2 p3 p4 c0 c1 b467 (0 : Int32)) []) _
   refine XS.iload X488.here hx rfl (hb hby at_51) rfl ?_
   show GO p e below T488 (mkF m 53 (la24 p0 p1 p2 p3 p4 c0 c1 b467 (0 : Int32)) [(.int 0)]) _
   refine XS.ifYes X488.here hx rfl (pc0 := 53) (pc' := 74) rfl (hb hby at_53) rfl ((if0 _ _).trans (teq (rfl : (0 : Int32) = (0 : Int32))).1) (by decide) (by decide) ?_
   show GO p e below T488 (mkF m 74 (la24 p0 p1 p2 p3 p4 c0 c1 b467 (0 : Int32)) []) _
   refine st493 _ ?_
   show GO p e below T493 (mkF m 77 (la24 p0 p1 p2 p3 p4 c0 c1 b467 (0 : Int32)) [(.ref q0)]) _
   refine XS.astore X493.here hx rfl (hb hby at_77) rfl rfl (l' := (la25 p0 p1 p2 p3 p4 c0 c1 b467 (0 : Int32) q0)) rfl ?_
   show GO p e below T493 (mkF m 79 (la25 p0 p1 p2 p3 p4 c0 c1 b467 (0 : Int32) q0) []) _
   refine st496 _ ?_
   show GO p e below T496 (mkF m 82 (la25 p0 p1 p2 p3 p4 c0 c1 b467 (0 : Int32) q0) [(.ref b496)]) _
   refine XS.dup X496.here hx rfl (hb hby at_82) rfl rfl ?_
   show GO p e below T496 (mkF m 83 (la25 p0 p1 p2 p3 p4 c0 c1 b467 (0 : Int32) q0) [(.ref b496), (.ref b496)]) _
   refine XS.iloadN X496.here hx rfl (hb hby at_83) rfl ?_
   show GO p e below T496 (mkF m 84 (la25 p0 p1 p2 p3 p4 c0 c1 b467 (0 : Int32) q0) [(.int p3), (.ref b496), (.ref b496)]) _
   refine XS.sipush X496.here hx rfl (hb hby at_84) ?_
   show GO p e below T496 (mkF m 87 (la25 p0 p1 p2 p3 p4 c0 c1 b467 (0 : Int32) q0) [(.int 255), (.int p3), (.ref b496), (.ref b496)]) _
   refine XS.iand X496.here hx rfl (hb hby at_87) rfl ?_
   show GO p e below T496 (mkF m 88 (la25 p0 p1 p2 p3 p4 c0 c1 b467 (0 : Int32) q0) [(.int (p3 &&& (255 : Int32))), (.ref b496), (.ref b496)]) _
   refine XS.i2c X496.here hx rfl (hb hby at_88) rfl ?_
   show GO p e below T496 (mkF m 89 (la25 p0 p1 p2 p3 p4 c0 c1 b467 (0 : Int32) q0) [(.int ((p3 &&& (255 : Int32)).toUInt32.toUInt16.toUInt32.toInt32)), (.ref b496), (.ref b496)]) _
   refine st500 _ ?_
   show GO p e below T500 (mkF m 92 (la25 p0 p1 p2 p3 p4 c0 c1 b467 (0 : Int32) q0) [(.ref x_500), (.ref b496), (.ref b496)]) _
   refine XS.aload X500.here hx rfl (hb hby at_92) rfl rfl ?_
   show GO p e below T500 (mkF m 94 (la25 p0 p1 p2 p3 p4 c0 c1 b467 (0 : Int32) q0) [(.ref q0), (.ref x_500), (.ref b496), (.ref b496)]) _
   refine st503.trans ?_
   show GO p e below T503 (mkF m 97 (la25 p0 p1 p2 p3 p4 c0 c1 b467 (0 : Int32) q0) [(.ref b496)]) _
   refine XS.astore X503.here hx rfl (hb hby at_97) rfl rfl (l' := (la26 p0 p1 p2 p3 p4 c0 c1 b467 (0 : Int32) q0 b496)) rfl ?_
   show GO p e below T503 (mkF m 99 (la26 p0 p1 p2 p3 p4 c0 c1 b467 (0 : Int32) q0 b496) []) _
   refine XS.aload X503.here hx rfl (hb hby at_99) rfl rfl ?_
   show GO p e below T503 (mkF m 101 (la26 p0 p1 p2 p3 p4 c0 c1 b467 (0 : Int32) q0 b496) [(.ref b496)]) _
   refine XS.aload X503.here hx rfl (hb hby at_101) rfl rfl ?_
   show GO p e below T503 (mkF m 103 (la26 p0 p1 p2 p3 p4 c0 c1 b467 (0 : Int32) q0 b496) [(.ref b467), (.ref b496)]) _
   refine st508.trans ?_
   show GO p e below T508 (mkF m 106 (la26 p0 p1 p2 p3 p4 c0 c1 b467 (0 : Int32) q0 b496) [(.ref x_508)]) _
   refine XS.astore X508.here hx rfl (hb hby at_106) rfl rfl (l' := (la27 p0 p1 p2 p3 p4 c0 c1 b467 (0 : Int32) q0 b496 x_508)) rfl ?_
   show GO p e below T508 (mkF m 108 (la27 p0 p1 p2 p3 p4 c0 c1 b467 (0 : Int32) q0 b496 x_508) []) _
   refine XS.iload X508.here hx rfl (hb hby at_108) rfl ?_
   show GO p e below T508 (mkF m 110 (la27 p0 p1 p2 p3 p4 c0 c1 b467 (0 : Int32) q0 b496 x_508) [(.int 0)]) _
   refine XS.ifYes X508.here hx rfl (pc0 := 110) (pc' := 224) rfl (hb hby at_110) rfl ((if0 _ _).trans (teq (rfl : (0 : Int32) = (0 : Int32))).1) (by decide) (by decide) ?_
   show GO p e below T508 (mkF m 224 (la27 p0 p1 p2 p3 p4 c0 c1 b467 (0 : Int32) q0 b496 x_508) []) _
   refine XS.bipush X508.here hx rfl (hb hby at_224) ?_
   show GO p e below T508 (mkF m 226 (la27 p0 p1 p2 p3 p4 c0 c1 b467 (0 : Int32) q0 b496 x_508) [(.int 7)]) _
   refine st520 _ ?_
   show GO p e below T520 (mkF m 228 (la27 p0 p1 p2 p3 p4 c0 c1 b467 (0 : Int32) q0 b496 x_508) [(.ref b520)]) _
   refine XS.dup X520.here hx rfl (hb hby at_228) rfl rfl ?_
   show GO p e below T520 (mkF m 229 (la27 p0 p1 p2 p3 p4 c0 c1 b467 (0 : Int32) q0 b496 x_508) [(.ref b520), (.ref b520)]) _
   refine XS.iconst X520.here hx rfl (hb hby at_229) ?_
   show GO p e below T520 (mkF m 230 (la27 p0 p1 p2 p3 p4 c0 c1 b467 (0 : Int32) q0 b496 x_508) [(.int 0), (.ref b520), (.ref b520)]) _
   refine XS.iload X520.here hx rfl (hb hby at_230) rfl ?_
   show GO p e below T520 (mkF m 232 (la27 p0 p1 p2 p3 p4 c0 c1 b467 (0 : Int32) q0 b496 x_508) [(.int c0), (.int 0), (.ref b520), (.ref b520)]) _
   refine st523 _ ?_
   show GO p e below T523 (mkF m 233 (la27 p0 p1 p2 p3 p4 c0 c1 b467 (0 : Int32) q0 b496 x_508) [(.ref b520)]) _
   refine XS.dup X523.here hx rfl (hb hby at_233) rfl rfl ?_
   show GO p e below T523 (mkF m 234 (la27 p0 p1 p2 p3 p4 c0 c1 b467 (0 : Int32) q0 b496 x_508) [(.ref b520), (.ref b520)]) _
   refine XS.iconst X523.here hx rfl (hb hby at_234) ?_
   show GO p e below T523 (mkF m 235 (la27 p0 p1 p2 p3 p4 c0 c1 b467 (0 : Int32) q0 b496 x_508) [(.int 1), (.ref b520), (.ref b520)]) _
   refine XS.iload X523.here hx rfl (hb hby at_235) rfl ?_
   show GO p e below T523 (mkF m 237 (la27 p0 p1 p2 p3 p4 c0 c1 b467 (0 : Int32) q0 b496 x_508) [(.int c1), (.int 1), (.ref b520), (.ref b520)]) _
   refine st529 _ ?_
   show GO p e below T529 (mkF m 238 (la27 p0 p1 p2 p3 p4 c0 c1 b467 (0 : Int32) q0 b496 x_508) [(.ref b520)]) _
   refine XS.dup X529.here hx rfl (hb hby at_238) rfl rfl ?_
   show GO p e below T529 (mkF m 239 (la27 p0 p1 p2 p3 p4 c0 c1 b467 (0 : Int32) q0 b496 x_508) [(.ref b520), (.ref b520)]) _
   refine XS.iconst X529.here hx rfl (hb hby at_239) ?_
   show GO p e below T529 (mkF m 240 (la27 p0 p1 p2 p3 p4 c0 c1 b467 (0 : Int32) q0 b496 x_508) [(.int 2), (.ref b520), (.ref b520)]) _
   refine XS.bipush X529.here hx rfl (hb hby at_240) ?_
   show GO p e below T529 (mkF m 242 (la27 p0 p1 p2 p3 p4 c0 c1 b467 (0 : Int32) q0 b496 x_508) [(.int 32), (.int 2), (.ref b520), (.ref b520)]) _
   refine st532 _ ?_
   show GO p e below T532 (mkF m 243 (la27 p0 p1 p2 p3 p4 c0 c1 b467 (0 : Int32) q0 b496 x_508) [(.ref b520)]) _
   refine XS.dup X532.here hx rfl (hb hby at_243) rfl rfl ?_
   show GO p e below T532 (mkF m 244 (la27 p0 p1 p2 p3 p4 c0 c1 b467 (0 : Int32) q0 b496 x_508) [(.ref b520), (.ref b520)]) _
   refine XS.iconst X532.here hx rfl (hb hby at_244) ?_
   show GO p e below T532 (mkF m 245 (la27 p0 p1 p2 p3 p4 c0 c1 b467 (0 : Int32) q0 b496 x_508) [(.int 3), (.ref b520), (.ref b520)]) _
   refine XS.bipush X532.here hx rfl (hb hby at_245) ?_
   show GO p e below T532 (mkF m 247 (la27 p0 p1 p2 p3 p4 c0 c1 b467 (0 : Int32) q0 b496 x_508) [(.int 62), (.int 3), (.ref b520), (.ref b520)]) _
   refine st535 _ ?_
   show GO p e below T535 (mkF m 248 (la27 p0 p1 p2 p3 p4 c0 c1 b467 (0 : Int32) q0 b496 x_508) [(.ref b520)]) _
   refine XS.dup X535.here hx rfl (hb hby at_248) rfl rfl ?_
   show GO p e below T535 (mkF m 249 (la27 p0 p1 p2 p3 p4 c0 c1 b467 (0 : Int32) q0 b496 x_508) [(.ref b520), (.ref b520)]) _
   refine XS.iconst X535.here hx rfl (hb hby at_249) ?_
   show GO p e below T535 (mkF m 250 (la27 p0 p1 p2 p3 p4 c0 c1 b467 (0 : Int32) q0 b496 x_508) [(.int 4), (.ref b520), (.ref b520)]) _
   refine XS.bipush X535.here hx rfl (hb hby at_250) ?_
   show GO p e below T535 (mkF m 252 (la27 p0 p1 p2 p3 p4 c0 c1 b467 (0 : Int32) q0 b496 x_508) [(.int 61), (.int 4), (.ref b520), (.ref b520)]) _
   refine st538 _ ?_
   show GO p e below T538 (mkF m 253 (la27 p0 p1 p2 p3 p4 c0 c1 b467 (0 : Int32) q0 b496 x_508) [(.ref b520)]) _
   refine XS.dup X538.here hx rfl (hb hby at_253) rfl rfl ?_
   show GO p e below T538 (mkF m 254 (la27 p0 p1 p2 p3 p4 c0 c1 b467 (0 : Int32) q0 b496 x_508) [(.ref b520), (.ref b520)]) _
   refine XS.iconst X538.here hx rfl (hb hby at_254) ?_
   show GO p e below T538 (mkF m 255 (la27 p0 p1 p2 p3 p4 c0 c1 b467 (0 : Int32) q0 b496 x_508) [(.int 5), (.ref b520), (.ref b520)]) _
   refine XS.bipush X538.here hx rfl (hb hby at_255) ?_
   show GO p e below T538 (mkF m 257 (la27 p0 p1 p2 p3 p4 c0 c1 b467 (0 : Int32) q0 b496 x_508) [(.int 32), (.int 5), (.ref b520), (.ref b520)]) _
   refine st541 _ ?_
   show GO p e below T541 (mkF m 258 (la27 p0 p1 p2 p3 p4 c0 c1 b467 (0 : Int32) q0 b496 x_508) [(.ref b520)]) _
   refine XS.dup X541.here hx rfl (hb hby at_258) rfl rfl ?_
   show GO p e below T541 (mkF m 259 (la27 p0 p1 p2 p3 p4 c0 c1 b467 (0 : Int32) q0 b496 x_508) [(.ref b520), (.ref b520)]) _
   refine XS.bipush X541.here hx rfl (hb hby at_259) ?_
   show GO p e below T541 (mkF m 261 (la27 p0 p1 p2 p3 p4 c0 c1 b467 (0 : Int32) q0 b496 x_508) [(.int 6), (.ref b520), (.ref b520)]) _
   refine XS.bipush X541.here hx rfl (hb hby at_261) ?_
   show GO p e below T541 (mkF m 263 (la27 p0 p1 p2 p3 p4 c0 c1 b467 (0 : Int32) q0 b496 x_508) [(.int 63), (.int 6), (.ref b520), (.ref b520)]) _
   refine st544 _ ?_
   show GO p e below T544 (mkF m 264 (la27 p0 p1 p2 p3 p4 c0 c1 b467 (0 : Int32) q0 b496 x_508) [(.ref b520)]) _
   refine XS.astore X544.here hx rfl (hb hby at_264) rfl rfl (l' := (la28 p0 p1 p2 p3 p4 c0 c1 b467 (0 : Int32) q0 b496 x_508 b520)) rfl ?_
   show GO p e below T544 (mkF m 266 (la28 p0 p1 p2 p3 p4 c0 c1 b467 (0 : Int32) q0 b496 x_508 b520) []) _
   refine XS.aload X544.here hx rfl (hb hby at_266) rfl rfl ?_
   show GO p e below T544 (mkF m 268 (la28 p0 p1 p2 p3 p4 c0 c1 b467 (0 : Int32) q0 b496 x_508 b520) [(.ref x_508)]) _
   refine XS.ifnullNo X544.here hx rfl (hb hby at_268) rfl ?_
   show GO p e below T544 (mkF m 271 (la28 p0 p1 p2 p3 p4 c0 c1 b467 (0 : Int32) q0 b496 x_508 b520) []) _
   refine XS.aload X544.here hx rfl (hb hby at_271) rfl rfl ?_
   show GO p e below T544 (mkF m 273 (la28 p0 p1 p2 p3 p4 c0 c1 b467 (0 : Int32) q0 b496 x_508 b520) [(.ref x_508)]) _
   refine st546 _ ?_
   show GO p e below T546 (mkF m 276 (la28 p0 p1 p2 p3 p4 c0 c1 b467 (0 : Int32) q0 b496 x_508 b520) [(.ref b546), (.ref x_508)]) _
   refine XS.dup X546.here hx rfl (hb hby at_276) rfl rfl ?_
   show GO p e below T546 (mkF m 277 (la28 p0 p1 p2 p3 p4 c0 c1 b467 (0 : Int32) q0 b496 x_508 b520) [(.ref b546), (.ref b546), (.ref x_508)]) _
   refine XS.aload X546.here hx rfl (hb hby at_277) rfl rfl ?_
   show GO p e below T546 (mkF m 279 (la28 p0 p1 p2 p3 p4 c0 c1 b467 (0 : Int32) q0 b496 x_508 b520) [(.ref b520), (.ref b546), (.ref b546), (.ref x_508)]) _
   refine st554.trans ?_
   show GO p e below T554 (mkF m 282 (la28 p0 p1 p2 p3 p4 c0 c1 b467 (0 : Int32) q0 b496 x_508 b520) [(.ref b546), (.ref x_508)]) _
   refine st567.trans ?_
   show GO p e below T567 (mkF m 285 (la28 p0 p1 p2 p3 p4 c0 c1 b467 (0 : Int32) q0 b496 x_508 b520) [(.int (own_eqs ([c0, c1, (32 : Int32), (62 : Int32), (61 : Int32), (32 : Int32), (63 : Int32)] : List Int32) ([c0, c1, (32 : Int32), (62 : Int32), (61 : Int32), (32 : Int32), (63 : Int32)] : List Int32)))]) _
   refine XS.ifNo X567.here hx rfl (hb hby at_285) rfl ((if0 _ _).trans (feq (own_eqself _ : ¬ ((own_eqs ([c0, c1, (32 : Int32), (62 : Int32), (61 : Int32), (32 : Int32), (63 : Int32)] : List Int32) ([c0, c1, (32 : Int32), (62 : Int32), (61 : Int32), (32 : Int32), (63 : Int32)] : List Int32)) = (0 : Int32)))).1) ?_
   show GO p e below T567 (mkF m 288 (la28 p0 p1 p2 p3 p4 c0 c1 b467 (0 : Int32) q0 b496 x_508 b520) []) _
   refine XS.iconst X567.here hx rfl (hb hby at_288) ?_
   show GO p e below T567 (mkF m 289 (la28 p0 p1 p2 p3 p4 c0 c1 b467 (0 : Int32) q0 b496 x_508 b520) [(.int 1)]) _
   refine XS.goto X567.here hx rfl (pc0 := 289) (pc' := 293) rfl (hb hby at_289) (by decide) (by decide) ?_
   show GO p e below T567 (mkF m 293 (la28 p0 p1 p2 p3 p4 c0 c1 b467 (0 : Int32) q0 b496 x_508 b520) [(.int 1)]) _
   exact retN X567 hx (t := .boolean) Bd.returns (by simp) (hb hby at_293) hr
  ·show Qrm0 Z p0 p1 p2 p3 p4 z0 q0 h0 n0 _ T567.heap _
   rw [e567]
   exact ⟨rfl, N567⟩
  ·show CHr Z EL1 s.vm s.heap T567.vm T567.heap
   rw [hh, e567]
   exact CE
 ·-- pc 63: String.valueOf by rm_vo
  have ge569 : n0 ≤ b467 := by omega
  have f570 : Old Z n0 h488 := (f485.keep K488 (allS ge569 all0))
  obtain ⟨_, _, ⟨T568, L568, k568, n568⟩, -, X568, ⟨Lc568, hQ568, l568, y568, z568⟩, st568⟩ := Jvm.LawKit.callS X488 hx (y := (⟨kS1, "valueOf", "(C)Ljava/lang/String;"⟩ : MethodName)) hown (mvT hZ (wd hw 38 rfl)) (mvT hZ (wd hw 39 rfl)) (mvT hZ (wd hw 2 rfl)) (mvT hZ (wd hw 40 rfl)) (by decide) (backOf (W := 0) (rm_vo l Z a0 hw [] ((p4 &&& (255 : Int32)).toUInt32.toUInt16.toUInt32.toInt32) z0 h488 n0 nz488 f570 (by first | assumption | decide | omega) (by first | assumption | decide | omega) (own_ch _).1) hZ (wd hw 40 rfl) (wd hw 2 rfl) (by decide) (by decide)) (g := (mkF m 63 (la24 p0 p1 p2 p3 p4 c0 c1 b467 (1 : Int32)) [(.int ((p4 &&& (255 : Int32)).toUInt32.toUInt16.toUInt32.toInt32))])) rfl (by rw [hml]; rfl) (argsL := [(.int ((p4 &&& (255 : Int32)).toUInt32.toUInt16.toUInt32.toInt32))]) (rest := []) (lenOf pd_27 rfl) rfl (wz rfl) (hb hby at_63) (fun _ _ => ⟨rfl, e488, (by decide : 3 + 2 ≤ _), (by decide : 8 + 5 ≤ _)⟩)
  dsimp only [Pt.U, Pt.locs, Pt.cells, Pt.slots] at X568 l568 y568 z568 st568 hQ568
  rw [l568, y568, z568] at X568
  obtain ⟨h568, e568⟩ : ∃ z, T568.heap = z := ⟨_, rfl⟩
  rw [e568] at hQ568
  obtain ⟨x_568, rfl, N568q, K568, p568_0⟩ := hQ568
  have N568 := Fr.app N488 N568q
  have C571 : CHr Z EL1 s.vm h0 s.vm h568 := C489.trans (CHr.keep K568 sf0 C489.1)
  have sz568 : h488.size ≤ h568.size := K568.1
  have nz568 := Nat.le_trans nz488 sz568
  have lt568_0 := ltA p568_0.lt
  -- pc 66: Optional.of by rm_of
  obtain ⟨_, _, ⟨T572, L572, k572, n572⟩, -, X572, ⟨Lc572, hQ572, l572, y572, z572⟩, st572⟩ := Jvm.LawKit.callS X568 hx (y := (⟨"java/util/Optional", "of", "(Ljava/lang/Object;)Ljava/util/Optional;"⟩ : MethodName)) hown (mvT hZ (wd hw 198 rfl)) (mvT hZ (wd hw 199 rfl)) (mvT hZ (wd hw 32 rfl)) (mvT hZ (wd hw 200 rfl)) (by decide) (backOf (W := 0) (rm_of l Z a0 hw [] x_568 h568 n0 nz568) hZ (wd hw 200 rfl) (wd hw 32 rfl) (by decide) (by decide)) (g := (mkF m 66 (la24 p0 p1 p2 p3 p4 c0 c1 b467 (1 : Int32)) [(.ref x_568)])) rfl (by rw [hml]; rfl) (argsL := [(.ref x_568)]) (rest := []) (lenOf pd_31 rfl) rfl (wz rfl) (hb hby at_66) (fun _ _ => ⟨rfl, e568, (by decide : 5 + 1 ≤ _), (by decide : 13 + 1 ≤ _)⟩)
  dsimp only [Pt.U, Pt.locs, Pt.cells, Pt.slots] at X572 l572 y572 z572 st572 hQ572
  rw [l572, y572, z572] at X572
  obtain ⟨h572, e572⟩ : ∃ z, T572.heap = z := ⟨_, rfl⟩
  rw [e572] at hQ572
  obtain ⟨o_572, rfl, N572q, K572, p572_0, p572_1⟩ := hQ572
  have N572 := Fr.app N568 N572q
  have C573 : CHr Z EL1 s.vm h0 s.vm h572 := C571.trans (CHr.keep K572 sf0 C571.1)
  have sz572 : h568.size ≤ h572.size := K572.1
  have nz572 := Nat.le_trans nz568 sz572
  have lt572_0 := ltA p572_0.lt
  obtain ⟨T574, h574, X574, e574, E574, A574, D574, U574, st574⟩ := newO X572 hx hZ hown (wd hw 35 rfl) (wd hw 36 rfl) (wd hw 37 rfl) e572 (g := (mkF m 79 (la25 p0 p1 p2 p3 p4 c0 c1 b467 (1 : Int32) o_572) [])) rfl (hb hby at_79) (by decide) (by decide)
  obtain ⟨b574, g574⟩ : ∃ z, z = h572.size := ⟨_, rfl⟩
  rw [← g574] at A574 D574 U574 st574
  have C575 : CHr Z EL1 s.vm h0 s.vm h574 := C573.trans (CHr.ext E574 C573.1)
  have sz574 : h572.size ≤ h574.size := E574.1
  have nz574 := Nat.le_trans nz572 sz574
  have lt574 := ltA A574.lt
  have f576 : Fld Z h574 b574 "com/example/lease/lease/store/KeyRange" "from" "Ljava/lang/String;" .null := D574 (Or.inr (wd hw 62 rfl)) (ty := (.object kS1)) (by decide)
  have f577 : Fld Z h574 b574 "com/example/lease/lease/store/KeyRange" "below" "Ljava/util/Optional;" .null := D574 (Or.inr (wd hw 64 rfl)) (ty := (.object "java/util/Optional")) (by decide)
  -- pc 89: String.valueOf by rm_vo
  have f579 : Old Z n0 h574 := (((f570.keep K568 all0).keep K572 all0).ext E574)
  obtain ⟨_, _, ⟨T578, L578, k578, n578⟩, -, X578, ⟨Lc578, hQ578, l578, y578, z578⟩, st578⟩ := Jvm.LawKit.callS X574 hx (y := (⟨kS1, "valueOf", "(C)Ljava/lang/String;"⟩ : MethodName)) hown (mvT hZ (wd hw 38 rfl)) (mvT hZ (wd hw 39 rfl)) (mvT hZ (wd hw 2 rfl)) (mvT hZ (wd hw 40 rfl)) (by decide) (backOf (W := 2) (rm_vo l Z a0 hw [] ((p3 &&& (255 : Int32)).toUInt32.toUInt16.toUInt32.toInt32) z0 h574 n0 nz574 f579 (by first | assumption | decide | omega) (by first | assumption | decide | omega) (own_ch _).1) hZ (wd hw 40 rfl) (wd hw 2 rfl) (by decide) (by decide)) (g := (mkF m 89 (la25 p0 p1 p2 p3 p4 c0 c1 b467 (1 : Int32) o_572) [(.int ((p3 &&& (255 : Int32)).toUInt32.toUInt16.toUInt32.toInt32)), (.ref b574), (.ref b574)])) rfl (by rw [hml]; rfl) (argsL := [(.int ((p3 &&& (255 : Int32)).toUInt32.toUInt16.toUInt32.toInt32))]) (rest := [(.ref b574), (.ref b574)]) (lenOf pd_27 rfl) rfl (wz rfl) (hb hby at_89) (fun _ _ => ⟨rfl, e574, (by decide : 7 + 2 ≤ _), (by decide : 16 + 5 ≤ _)⟩)
  dsimp only [Pt.U, Pt.locs, Pt.cells, Pt.slots] at X578 l578 y578 z578 st578 hQ578
  rw [l578, y578, z578] at X578
  obtain ⟨h578, e578⟩ : ∃ z, T578.heap = z := ⟨_, rfl⟩
  rw [e578] at hQ578
  obtain ⟨x_578, rfl, N578q, K578, p578_0⟩ := hQ578
  have N578 := Fr.app N572 N578q
  have C580 : CHr Z EL1 s.vm h0 s.vm h578 := C575.trans (CHr.keep K578 sf0 C575.1)
  have sz578 : h574.size ≤ h578.size := K578.1
  have nz578 := Nat.le_trans nz574 sz578
  have lt578_0 := ltA p578_0.lt
  -- pc 94: KeyRange.<init> by rm_ki
  have f582 : Exa Z h578 b574 "com/example/lease/lease/store/KeyRange" := (A574.keep K578)
  have f583 : Fld Z h578 b574 "com/example/lease/lease/store/KeyRange" "from" "Ljava/lang/String;" .null := (f576.keep K578 nin0)
  have f584 : Fld Z h578 b574 "com/example/lease/lease/store/KeyRange" "below" "Ljava/util/Optional;" .null := (f577.keep K578 nin0)
  obtain ⟨_, _, ⟨T581, L581, k581, n581⟩, -, X581, ⟨Lc581, hQ581, l581, y581, z581⟩, st581⟩ := X578.specialBack hx (y := (⟨"com/example/lease/lease/store/KeyRange", "<init>", "(Ljava/lang/String;Ljava/util/Optional;)V"⟩ : MethodName)) rfl hown (mvT hZ (wd hw 52 rfl)) (mvT hZ (wd hw 53 rfl)) (mvT hZ (wd hw 54 rfl)) (by decide) (backOf (W := 1) (rm_ki l Z a0 hw [] b574 x_578 o_572 .null .null h578 n0 nz578 f582 f583 f584 (by first | assumption | decide | omega)) hZ (wd hw 54 rfl) (wd hw 37 rfl) (by decide) (by decide)) (g := (mkF m 94 (la25 p0 p1 p2 p3 p4 c0 c1 b467 (1 : Int32) o_572) [(.ref o_572), (.ref x_578), (.ref b574), (.ref b574)])) rfl (by rw [hml]; rfl) (Steps.refl _) (a := b574) (argsL := [(.ref x_578), (.ref o_572)]) (rest := [(.ref b574)]) (lenOf pd_28 rfl) rfl (wz rfl) (hb hby at_94) (fun _ _ => ⟨rfl, e578, (by decide : 9 + 0 ≤ _), (by decide : 21 + 0 ≤ _)⟩)
  dsimp only [Pt.U, Pt.locs, Pt.cells, Pt.slots] at X581 l581 y581 z581 st581 hQ581
  rw [l581, y581, z581] at X581
  obtain ⟨h581, e581⟩ : ∃ z, T581.heap = z := ⟨_, rfl⟩
  rw [e581] at hQ581
  obtain ⟨rfl, N581q, K581, p581_0, p581_1⟩ := hQ581
  have N581 := Fr.app N578 N581q
  have C585 : CHr Z EL1 s.vm h0 s.vm h581 := C580.trans (CHr.keep K581 (sfS (Safe.exa hZ.alike f582 (by decide) (by decide)) sf0) C580.1)
  have sz581 : h578.size ≤ h581.size := K581.1
  have nz581 := Nat.le_trans nz578 sz581
  have lt581_0 := ltA p581_0.lt
  -- pc 103: KeyRange.condition by rm_cond1
  have ge587 : n0 ≤ b574 := by omega
  have f588 : Old Z n0 h581 := ((f579.keep K578 all0).keep K581 (allS ge587 all0))
  have f589 : Exa Z h581 b467 kS1 := (((((A488.keep K568).keep K572).ext E574).keep K578).keep K581)
  have ne590 : b467 ≠ b574 := neN (by omega)
  have f591 : Fld Z h581 b467 kS1 "coder" "B" (.int 0) := (((((Fc488.keep K568 nin0).keep K572 nin0).ext E574).keep K578 nin0).keep K581 (ninS ne590 nin0))
  have f592 : Fld Z h581 b467 kS1 "value" "[B" (.ref t488) := (((((Fv488.keep K568 nin0).keep K572 nin0).ext E574).keep K578 nin0).keep K581 (ninS ne590 nin0))
  have ne593 : t488 ≠ b574 := neN (by omega)
  have f594 : Arv Z h581 t488 kb488 .byte (2 : Int32) [(.int (c0.toInt8.toInt32)), (.int (c1.toInt8.toInt32))] (.int 0) := (((((V490.keep K568 nin0).keep K572 nin0).ext E574).keep K578 nin0).keep K581 (ninS ne593 nin0))
  have f595 : Exa Z h581 o_572 "java/util/Optional" := (((p572_0.ext E574).keep K578).keep K581)
  have ne596 : o_572 ≠ b574 := neN (by omega)
  have f597 : Fld Z h581 o_572 "java/util/Optional" "value" "Ljava/lang/Object;" (.ref x_568) := (((p572_1.ext E574).keep K578 nin0).keep K581 (ninS ne596 nin0))
  obtain ⟨cq586, kq586, q586a, q586b, q586c⟩ := isOf hZ e581 p581_0
  obtain ⟨_, _, ⟨T586, L586, k586, n586⟩, -, X586w, hS586w, gr586, ⟨Lc586, hQ586, l586, y586, z586, C586w⟩, st586⟩ := X581.virtualBackS hx (y := (⟨"com/example/lease/lease/store/KeyRange", "condition", "(Ljava/lang/String;)Ljava/lang/String;"⟩ : MethodName)) (z := (⟨"com/example/lease/lease/store/KeyRange", "condition", "(Ljava/lang/String;)Ljava/lang/String;"⟩ : MethodName)) hown (mvT hZ (wd hw 65 rfl)) (mvT hZ (wd hw 66 rfl)) (notFace_of_selects (args := #[]) (mvT hZ (wd hw 68 rfl))) (mvT hZ (wd hw 68 rfl)) (mvT hZ (wd hw 67 rfl)) (by decide) (own_backS (W := 0) (rm_cond1 l Z a0 hw [] b467 t488 kb488 (c0.toInt8.toInt32) (c1.toInt8.toInt32) b574 o_572 x_568 z0 h581 n0 nz581 f588 f589 f591 f592 f594 p581_1 f595 f597 (by first | assumption | decide | omega) (by first | assumption | decide | omega)) hZ (wd hw 69 rfl) (wd hw 37 rfl) (by decide) (by decide) (own_EW hw) C585.1 sf0 all0) q586a q586c (g := (mkF m 103 (la26 p0 p1 p2 p3 p4 c0 c1 b467 (1 : Int32) o_572 b574) [(.ref b467), (.ref b574)])) rfl (by rw [hml]; rfl) (Steps.refl _) (argsL := [(.ref b467)]) (rest := []) (lenOf pd_29 rfl) rfl (wz rfl) (hb hby at_103) (fun _ _ => ⟨rfl, e581, (by decide : 9 + 9 ≤ _), (by decide : 21 + 140 ≤ _)⟩)
  dsimp only [Pt.U, Pt.locs, Pt.cells, Pt.slots] at X586w hS586w gr586 l586 y586 z586 st586 hQ586 C586w
  rw [l586, y586, z586] at X586w
  obtain ⟨X586, hS586, hZ586, hown586⟩ := rebS hS0 (by rw [e581]; omega) X586w hS586w gr586 hZ hown
  obtain ⟨h586, e586⟩ : ∃ z, T586.heap = z := ⟨_, rfl⟩
  rw [e586] at hQ586
  obtain ⟨x_586, t_586, k_586, rfl, N586q, K586, p586_0, p586_1, p586_2, p586_3⟩ := hQ586
  have N586 := Fr.app N581 N586q
  rw [e586] at C586w hS586
  have hk586 : h586.size ≤ h586.size := Nat.le_refl _
  have C598 : CHr Z EL1 s.vm h0 T586.vm h586 := C585.trans (C586w)
  have sz586 : h581.size ≤ h586.size := K586.1
  have nz586 := Nat.le_trans nz581 sz586
  have lt586_0 := ltA p586_0.lt
  have lt586_3 := ltA p586_3.lt
  have hal : ∀ c ∈ ([c0, c1, (32 : Int32), (62 : Int32), (61 : Int32), (32 : Int32), (63 : Int32), (32 : Int32), (65 : Int32), (78 : Int32), (68 : Int32), (32 : Int32), c0, c1, (32 : Int32), (60 : Int32), (32 : Int32), (63 : Int32)] : List Int32), ¬ c < 0 ∧ ¬ (255 : Int32) < c := (own_allS rc0 (own_allS rc1 (own_allS (by decide) (own_allS (by decide) (own_allS (by decide) (own_allS (by decide) (own_allS (by decide) (own_allS (by decide) (own_allS (by decide) (own_allS (by decide) (own_allS (by decide) (own_allS (by decide) (own_allS rc0 (own_allS rc1 (own_allS (by decide) (own_allS (by decide) (own_allS (by decide) (own_allS (by decide) own_all0))))))))))))))))))
  have hcg : StrChars.Road.CodA ([c0, c1, (32 : Int32), (62 : Int32), (61 : Int32), (32 : Int32), (63 : Int32), (32 : Int32), (65 : Int32), (78 : Int32), (68 : Int32), (32 : Int32), c0, c1, (32 : Int32), (60 : Int32), (32 : Int32), (63 : Int32)] : List Int32) 0 (18 : Int32) [(.int (c0.toInt8.toInt32)), (.int (c1.toInt8.toInt32)), (.int 32), (.int 62), (.int 61), (.int 32), (.int 63), (.int 32), (.int 65), (.int 78), (.int 68), (.int 32), (.int (c0.toInt8.toInt32)), (.int (c1.toInt8.toInt32)), (.int 32), (.int 60), (.int 32), (.int 63)] := Or.inl ⟨rfl, rfl, rfl, fun c hc => (hal c hc).2⟩
  obtain ⟨T599, h599, k599, X599, e599, E599, A599, st599⟩ := newP X586 hx hZ586 (wd hw 3 rfl) e586 (g := (mkF m 115 (la27 p0 p1 p2 p3 p4 c0 c1 b467 (1 : Int32) o_572 b574 x_586) [(.int 18)])) rfl (hb hby at_115) rfl (by decide) (cap := 18) (by decide) (by decide) (by decide) (by decide)
  obtain ⟨b599, g599⟩ : ∃ z, z = h586.size := ⟨_, rfl⟩
  rw [← g599] at A599 st599
  have C600 : CHr Z EL1 s.vm h0 T586.vm h599 := C598.trans (CHr.ext E599 C598.1)
  have sz599 : h586.size ≤ h599.size := E599.1
  have nz599 := Nat.le_trans nz586 sz599
  have lt599 := ltA A599.lt
  have V599 : Arv Z h599 b599 k599 .char (18 : Int32) [(.int 0), (.int 0), (.int 0), (.int 0), (.int 0), (.int 0), (.int 0), (.int 0), (.int 0), (.int 0), (.int 0), (.int 0), (.int 0), (.int 0), (.int 0), (.int 0), (.int 0), (.int 0)] (.int 0) := (Arv.new A599 (by decide)).pad (pad_rep [] (.int 0) 18)
  obtain ⟨cl601, Ar601, q601, S601, M601, H601, G601⟩ := id V599
  have hin601 : ¬ ((0 : Int32) < 0 ∨ cl601.slots.size ≤ ((0 : Int32)).toNatClampNeg) := inb_of S601 ⟨by decide, by decide⟩
  obtain ⟨T602, h602, X602, e602, W602, st602⟩ := stC X599 hx hZ586 e599 Ar601 (j := (0 : Int32)) hin601 (g := (mkF m 121 (la27 p0 p1 p2 p3 p4 c0 c1 b467 (1 : Int32) o_572 b574 x_586) [(.int c0), (.int 0), (.ref b599), (.ref b599)])) rfl rfl (hb hby at_121)
  have ge603 : n0 ≤ b599 := by omega
  have N602 := Fr.snoc X602 N586 ge603
  have f604 : Exa Z h599 x_586 kS1 := (p586_0.ext E599)
  have ne605 : b599 ≠ x_586 := Ne.symm (Exa.neArv f604 V599 (wd hw 1 rfl))
  have C606 : CHr Z EL1 s.vm h0 T586.vm h602 := C600.trans (CHr.wr W602 (Safe.arv hZ586.alike V599 (by decide)) C600.1)
  have sz602 : h599.size ≤ h602.size := Nat.le_of_eq W602.size.symm
  have nz602 := Nat.le_trans nz599 sz602
  have V602 : Arv Z h602 b599 k599 .char (18 : Int32) [(.int (nar .char c0)), (.int 0), (.int 0), (.int 0), (.int 0), (.int 0), (.int 0), (.int 0), (.int 0), (.int 0), (.int 0), (.int 0), (.int 0), (.int 0), (.int 0), (.int 0), (.int 0), (.int 0)] (.int 0) := Arv.set Ar601 q601 S601 M601 H601 G601 (fits_nar_char _) W602 0 rfl (Nat.le_of_ble_eq_true rfl)
  obtain ⟨cl607, Ar607, q607, S607, M607, H607, G607⟩ := id V602
  have hin607 : ¬ ((1 : Int32) < 0 ∨ cl607.slots.size ≤ ((1 : Int32)).toNatClampNeg) := inb_of S607 ⟨by decide, by decide⟩
  obtain ⟨T608, h608, X608, e608, W608, st608⟩ := stC X602 hx hZ586 e602 Ar607 (j := (1 : Int32)) hin607 (g := (mkF m 126 (la27 p0 p1 p2 p3 p4 c0 c1 b467 (1 : Int32) o_572 b574 x_586) [(.int c1), (.int 1), (.ref b599), (.ref b599)])) rfl rfl (hb hby at_126)
  have N608 := Fr.snoc X608 N602 ge603
  have C609 : CHr Z EL1 s.vm h0 T586.vm h608 := C606.trans (CHr.wr W608 (Safe.arv hZ586.alike V602 (by decide)) C606.1)
  have sz608 : h602.size ≤ h608.size := Nat.le_of_eq W608.size.symm
  have nz608 := Nat.le_trans nz602 sz608
  have V608 : Arv Z h608 b599 k599 .char (18 : Int32) [(.int (nar .char c0)), (.int (nar .char c1)), (.int 0), (.int 0), (.int 0), (.int 0), (.int 0), (.int 0), (.int 0), (.int 0), (.int 0), (.int 0), (.int 0), (.int 0), (.int 0), (.int 0), (.int 0), (.int 0)] (.int 0) := Arv.set Ar607 q607 S607 M607 H607 G607 (fits_nar_char _) W608 1 rfl (Nat.le_of_ble_eq_true rfl)
  obtain ⟨cl610, Ar610, q610, S610, M610, H610, G610⟩ := id V608
  have hin610 : ¬ ((2 : Int32) < 0 ∨ cl610.slots.size ≤ ((2 : Int32)).toNatClampNeg) := inb_of S610 ⟨by decide, by decide⟩
  obtain ⟨T611, h611, X611, e611, W611, st611⟩ := stC X608 hx hZ586 e608 Ar610 (j := (2 : Int32)) hin610 (g := (mkF m 131 (la27 p0 p1 p2 p3 p4 c0 c1 b467 (1 : Int32) o_572 b574 x_586) [(.int 32), (.int 2), (.ref b599), (.ref b599)])) rfl rfl (hb hby at_131)
  have N611 := Fr.snoc X611 N608 ge603
  have C612 : CHr Z EL1 s.vm h0 T586.vm h611 := C609.trans (CHr.wr W611 (Safe.arv hZ586.alike V608 (by decide)) C609.1)
  have sz611 : h608.size ≤ h611.size := Nat.le_of_eq W611.size.symm
  have nz611 := Nat.le_trans nz608 sz611
  have V611 : Arv Z h611 b599 k599 .char (18 : Int32) [(.int (nar .char c0)), (.int (nar .char c1)), (.int (nar .char (32 : Int32))), (.int 0), (.int 0), (.int 0), (.int 0), (.int 0), (.int 0), (.int 0), (.int 0), (.int 0), (.int 0), (.int 0), (.int 0), (.int 0), (.int 0), (.int 0)] (.int 0) := Arv.set Ar610 q610 S610 M610 H610 G610 (fits_nar_char _) W611 2 rfl (Nat.le_of_ble_eq_true rfl)
  obtain ⟨cl613, Ar613, q613, S613, M613, H613, G613⟩ := id V611
  have hin613 : ¬ ((3 : Int32) < 0 ∨ cl613.slots.size ≤ ((3 : Int32)).toNatClampNeg) := inb_of S613 ⟨by decide, by decide⟩
  obtain ⟨T614, h614, X614, e614, W614, st614⟩ := stC X611 hx hZ586 e611 Ar613 (j := (3 : Int32)) hin613 (g := (mkF m 136 (la27 p0 p1 p2 p3 p4 c0 c1 b467 (1 : Int32) o_572 b574 x_586) [(.int 62), (.int 3), (.ref b599), (.ref b599)])) rfl rfl (hb hby at_136)
  have N614 := Fr.snoc X614 N611 ge603
  have C615 : CHr Z EL1 s.vm h0 T586.vm h614 := C612.trans (CHr.wr W614 (Safe.arv hZ586.alike V611 (by decide)) C612.1)
  have sz614 : h611.size ≤ h614.size := Nat.le_of_eq W614.size.symm
  have nz614 := Nat.le_trans nz611 sz614
  have V614 : Arv Z h614 b599 k599 .char (18 : Int32) [(.int (nar .char c0)), (.int (nar .char c1)), (.int (nar .char (32 : Int32))), (.int (nar .char (62 : Int32))), (.int 0), (.int 0), (.int 0), (.int 0), (.int 0), (.int 0), (.int 0), (.int 0), (.int 0), (.int 0), (.int 0), (.int 0), (.int 0), (.int 0)] (.int 0) := Arv.set Ar613 q613 S613 M613 H613 G613 (fits_nar_char _) W614 3 rfl (Nat.le_of_ble_eq_true rfl)
  obtain ⟨cl616, Ar616, q616, S616, M616, H616, G616⟩ := id V614
  have hin616 : ¬ ((4 : Int32) < 0 ∨ cl616.slots.size ≤ ((4 : Int32)).toNatClampNeg) := inb_of S616 ⟨by decide, by decide⟩
  obtain ⟨T617, h617, X617, e617, W617, st617⟩ := stC X614 hx hZ586 e614 Ar616 (j := (4 : Int32)) hin616 (g := (mkF m 141 (la27 p0 p1 p2 p3 p4 c0 c1 b467 (1 : Int32) o_572 b574 x_586) [(.int 61), (.int 4), (.ref b599), (.ref b599)])) rfl rfl (hb hby at_141)
  have N617 := Fr.snoc X617 N614 ge603
  have C618 : CHr Z EL1 s.vm h0 T586.vm h617 := C615.trans (CHr.wr W617 (Safe.arv hZ586.alike V614 (by decide)) C615.1)
  have sz617 : h614.size ≤ h617.size := Nat.le_of_eq W617.size.symm
  have nz617 := Nat.le_trans nz614 sz617
  have V617 : Arv Z h617 b599 k599 .char (18 : Int32) [(.int (nar .char c0)), (.int (nar .char c1)), (.int (nar .char (32 : Int32))), (.int (nar .char (62 : Int32))), (.int (nar .char (61 : Int32))), (.int 0), (.int 0), (.int 0), (.int 0), (.int 0), (.int 0), (.int 0), (.int 0), (.int 0), (.int 0), (.int 0), (.int 0), (.int 0)] (.int 0) := Arv.set Ar616 q616 S616 M616 H616 G616 (fits_nar_char _) W617 4 rfl (Nat.le_of_ble_eq_true rfl)
  obtain ⟨cl619, Ar619, q619, S619, M619, H619, G619⟩ := id V617
  have hin619 : ¬ ((5 : Int32) < 0 ∨ cl619.slots.size ≤ ((5 : Int32)).toNatClampNeg) := inb_of S619 ⟨by decide, by decide⟩
  obtain ⟨T620, h620, X620, e620, W620, st620⟩ := stC X617 hx hZ586 e617 Ar619 (j := (5 : Int32)) hin619 (g := (mkF m 146 (la27 p0 p1 p2 p3 p4 c0 c1 b467 (1 : Int32) o_572 b574 x_586) [(.int 32), (.int 5), (.ref b599), (.ref b599)])) rfl rfl (hb hby at_146)
  have N620 := Fr.snoc X620 N617 ge603
  have C621 : CHr Z EL1 s.vm h0 T586.vm h620 := C618.trans (CHr.wr W620 (Safe.arv hZ586.alike V617 (by decide)) C618.1)
  have sz620 : h617.size ≤ h620.size := Nat.le_of_eq W620.size.symm
  have nz620 := Nat.le_trans nz617 sz620
  have V620 : Arv Z h620 b599 k599 .char (18 : Int32) [(.int (nar .char c0)), (.int (nar .char c1)), (.int (nar .char (32 : Int32))), (.int (nar .char (62 : Int32))), (.int (nar .char (61 : Int32))), (.int (nar .char (32 : Int32))), (.int 0), (.int 0), (.int 0), (.int 0), (.int 0), (.int 0), (.int 0), (.int 0), (.int 0), (.int 0), (.int 0), (.int 0)] (.int 0) := Arv.set Ar619 q619 S619 M619 H619 G619 (fits_nar_char _) W620 5 rfl (Nat.le_of_ble_eq_true rfl)
  obtain ⟨cl622, Ar622, q622, S622, M622, H622, G622⟩ := id V620
  have hin622 : ¬ ((6 : Int32) < 0 ∨ cl622.slots.size ≤ ((6 : Int32)).toNatClampNeg) := inb_of S622 ⟨by decide, by decide⟩
  obtain ⟨T623, h623, X623, e623, W623, st623⟩ := stC X620 hx hZ586 e620 Ar622 (j := (6 : Int32)) hin622 (g := (mkF m 152 (la27 p0 p1 p2 p3 p4 c0 c1 b467 (1 : Int32) o_572 b574 x_586) [(.int 63), (.int 6), (.ref b599), (.ref b599)])) rfl rfl (hb hby at_152)
  have N623 := Fr.snoc X623 N620 ge603
  have C624 : CHr Z EL1 s.vm h0 T586.vm h623 := C621.trans (CHr.wr W623 (Safe.arv hZ586.alike V620 (by decide)) C621.1)
  have sz623 : h620.size ≤ h623.size := Nat.le_of_eq W623.size.symm
  have nz623 := Nat.le_trans nz620 sz623
  have V623 : Arv Z h623 b599 k599 .char (18 : Int32) [(.int (nar .char c0)), (.int (nar .char c1)), (.int (nar .char (32 : Int32))), (.int (nar .char (62 : Int32))), (.int (nar .char (61 : Int32))), (.int (nar .char (32 : Int32))), (.int (nar .char (63 : Int32))), (.int 0), (.int 0), (.int 0), (.int 0), (.int 0), (.int 0), (.int 0), (.int 0), (.int 0), (.int 0), (.int 0)] (.int 0) := Arv.set Ar622 q622 S622 M622 H622 G622 (fits_nar_char _) W623 6 rfl (Nat.le_of_ble_eq_true rfl)
  obtain ⟨cl625, Ar625, q625, S625, M625, H625, G625⟩ := id V623
  have hin625 : ¬ ((7 : Int32) < 0 ∨ cl625.slots.size ≤ ((7 : Int32)).toNatClampNeg) := inb_of S625 ⟨by decide, by decide⟩
  obtain ⟨T626, h626, X626, e626, W626, st626⟩ := stC X623 hx hZ586 e623 Ar625 (j := (7 : Int32)) hin625 (g := (mkF m 158 (la27 p0 p1 p2 p3 p4 c0 c1 b467 (1 : Int32) o_572 b574 x_586) [(.int 32), (.int 7), (.ref b599), (.ref b599)])) rfl rfl (hb hby at_158)
  have N626 := Fr.snoc X626 N623 ge603
  have C627 : CHr Z EL1 s.vm h0 T586.vm h626 := C624.trans (CHr.wr W626 (Safe.arv hZ586.alike V623 (by decide)) C624.1)
  have sz626 : h623.size ≤ h626.size := Nat.le_of_eq W626.size.symm
  have nz626 := Nat.le_trans nz623 sz626
  have V626 : Arv Z h626 b599 k599 .char (18 : Int32) [(.int (nar .char c0)), (.int (nar .char c1)), (.int (nar .char (32 : Int32))), (.int (nar .char (62 : Int32))), (.int (nar .char (61 : Int32))), (.int (nar .char (32 : Int32))), (.int (nar .char (63 : Int32))), (.int (nar .char (32 : Int32))), (.int 0), (.int 0), (.int 0), (.int 0), (.int 0), (.int 0), (.int 0), (.int 0), (.int 0), (.int 0)] (.int 0) := Arv.set Ar625 q625 S625 M625 H625 G625 (fits_nar_char _) W626 7 rfl (Nat.le_of_ble_eq_true rfl)
  obtain ⟨cl628, Ar628, q628, S628, M628, H628, G628⟩ := id V626
  have hin628 : ¬ ((8 : Int32) < 0 ∨ cl628.slots.size ≤ ((8 : Int32)).toNatClampNeg) := inb_of S628 ⟨by decide, by decide⟩
  obtain ⟨T629, h629, X629, e629, W629, st629⟩ := stC X626 hx hZ586 e626 Ar628 (j := (8 : Int32)) hin628 (g := (mkF m 164 (la27 p0 p1 p2 p3 p4 c0 c1 b467 (1 : Int32) o_572 b574 x_586) [(.int 65), (.int 8), (.ref b599), (.ref b599)])) rfl rfl (hb hby at_164)
  have N629 := Fr.snoc X629 N626 ge603
  have C630 : CHr Z EL1 s.vm h0 T586.vm h629 := C627.trans (CHr.wr W629 (Safe.arv hZ586.alike V626 (by decide)) C627.1)
  have sz629 : h626.size ≤ h629.size := Nat.le_of_eq W629.size.symm
  have nz629 := Nat.le_trans nz626 sz629
  have V629 : Arv Z h629 b599 k599 .char (18 : Int32) [(.int (nar .char c0)), (.int (nar .char c1)), (.int (nar .char (32 : Int32))), (.int (nar .char (62 : Int32))), (.int (nar .char (61 : Int32))), (.int (nar .char (32 : Int32))), (.int (nar .char (63 : Int32))), (.int (nar .char (32 : Int32))), (.int (nar .char (65 : Int32))), (.int 0), (.int 0), (.int 0), (.int 0), (.int 0), (.int 0), (.int 0), (.int 0), (.int 0)] (.int 0) := Arv.set Ar628 q628 S628 M628 H628 G628 (fits_nar_char _) W629 8 rfl (Nat.le_of_ble_eq_true rfl)
  obtain ⟨cl631, Ar631, q631, S631, M631, H631, G631⟩ := id V629
  have hin631 : ¬ ((9 : Int32) < 0 ∨ cl631.slots.size ≤ ((9 : Int32)).toNatClampNeg) := inb_of S631 ⟨by decide, by decide⟩
  obtain ⟨T632, h632, X632, e632, W632, st632⟩ := stC X629 hx hZ586 e629 Ar631 (j := (9 : Int32)) hin631 (g := (mkF m 170 (la27 p0 p1 p2 p3 p4 c0 c1 b467 (1 : Int32) o_572 b574 x_586) [(.int 78), (.int 9), (.ref b599), (.ref b599)])) rfl rfl (hb hby at_170)
  have N632 := Fr.snoc X632 N629 ge603
  have C633 : CHr Z EL1 s.vm h0 T586.vm h632 := C630.trans (CHr.wr W632 (Safe.arv hZ586.alike V629 (by decide)) C630.1)
  have sz632 : h629.size ≤ h632.size := Nat.le_of_eq W632.size.symm
  have nz632 := Nat.le_trans nz629 sz632
  have V632 : Arv Z h632 b599 k599 .char (18 : Int32) [(.int (nar .char c0)), (.int (nar .char c1)), (.int (nar .char (32 : Int32))), (.int (nar .char (62 : Int32))), (.int (nar .char (61 : Int32))), (.int (nar .char (32 : Int32))), (.int (nar .char (63 : Int32))), (.int (nar .char (32 : Int32))), (.int (nar .char (65 : Int32))), (.int (nar .char (78 : Int32))), (.int 0), (.int 0), (.int 0), (.int 0), (.int 0), (.int 0), (.int 0), (.int 0)] (.int 0) := Arv.set Ar631 q631 S631 M631 H631 G631 (fits_nar_char _) W632 9 rfl (Nat.le_of_ble_eq_true rfl)
  obtain ⟨cl634, Ar634, q634, S634, M634, H634, G634⟩ := id V632
  have hin634 : ¬ ((10 : Int32) < 0 ∨ cl634.slots.size ≤ ((10 : Int32)).toNatClampNeg) := inb_of S634 ⟨by decide, by decide⟩
  obtain ⟨T635, h635, X635, e635, W635, st635⟩ := stC X632 hx hZ586 e632 Ar634 (j := (10 : Int32)) hin634 (g := (mkF m 176 (la27 p0 p1 p2 p3 p4 c0 c1 b467 (1 : Int32) o_572 b574 x_586) [(.int 68), (.int 10), (.ref b599), (.ref b599)])) rfl rfl (hb hby at_176)
  have N635 := Fr.snoc X635 N632 ge603
  have C636 : CHr Z EL1 s.vm h0 T586.vm h635 := C633.trans (CHr.wr W635 (Safe.arv hZ586.alike V632 (by decide)) C633.1)
  have sz635 : h632.size ≤ h635.size := Nat.le_of_eq W635.size.symm
  have nz635 := Nat.le_trans nz632 sz635
  have V635 : Arv Z h635 b599 k599 .char (18 : Int32) [(.int (nar .char c0)), (.int (nar .char c1)), (.int (nar .char (32 : Int32))), (.int (nar .char (62 : Int32))), (.int (nar .char (61 : Int32))), (.int (nar .char (32 : Int32))), (.int (nar .char (63 : Int32))), (.int (nar .char (32 : Int32))), (.int (nar .char (65 : Int32))), (.int (nar .char (78 : Int32))), (.int (nar .char (68 : Int32))), (.int 0), (.int 0), (.int 0), (.int 0), (.int 0), (.int 0), (.int 0)] (.int 0) := Arv.set Ar634 q634 S634 M634 H634 G634 (fits_nar_char _) W635 10 rfl (Nat.le_of_ble_eq_true rfl)
  obtain ⟨cl637, Ar637, q637, S637, M637, H637, G637⟩ := id V635
  have hin637 : ¬ ((11 : Int32) < 0 ∨ cl637.slots.size ≤ ((11 : Int32)).toNatClampNeg) := inb_of S637 ⟨by decide, by decide⟩
  obtain ⟨T638, h638, X638, e638, W638, st638⟩ := stC X635 hx hZ586 e635 Ar637 (j := (11 : Int32)) hin637 (g := (mkF m 182 (la27 p0 p1 p2 p3 p4 c0 c1 b467 (1 : Int32) o_572 b574 x_586) [(.int 32), (.int 11), (.ref b599), (.ref b599)])) rfl rfl (hb hby at_182)
  have N638 := Fr.snoc X638 N635 ge603
  have C639 : CHr Z EL1 s.vm h0 T586.vm h638 := C636.trans (CHr.wr W638 (Safe.arv hZ586.alike V635 (by decide)) C636.1)
  have sz638 : h635.size ≤ h638.size := Nat.le_of_eq W638.size.symm
  have nz638 := Nat.le_trans nz635 sz638
  have V638 : Arv Z h638 b599 k599 .char (18 : Int32) [(.int (nar .char c0)), (.int (nar .char c1)), (.int (nar .char (32 : Int32))), (.int (nar .char (62 : Int32))), (.int (nar .char (61 : Int32))), (.int (nar .char (32 : Int32))), (.int (nar .char (63 : Int32))), (.int (nar .char (32 : Int32))), (.int (nar .char (65 : Int32))), (.int (nar .char (78 : Int32))), (.int (nar .char (68 : Int32))), (.int (nar .char (32 : Int32))), (.int 0), (.int 0), (.int 0), (.int 0), (.int 0), (.int 0)] (.int 0) := Arv.set Ar637 q637 S637 M637 H637 G637 (fits_nar_char _) W638 11 rfl (Nat.le_of_ble_eq_true rfl)
  obtain ⟨cl640, Ar640, q640, S640, M640, H640, G640⟩ := id V638
  have hin640 : ¬ ((12 : Int32) < 0 ∨ cl640.slots.size ≤ ((12 : Int32)).toNatClampNeg) := inb_of S640 ⟨by decide, by decide⟩
  obtain ⟨T641, h641, X641, e641, W641, st641⟩ := stC X638 hx hZ586 e638 Ar640 (j := (12 : Int32)) hin640 (g := (mkF m 188 (la27 p0 p1 p2 p3 p4 c0 c1 b467 (1 : Int32) o_572 b574 x_586) [(.int c0), (.int 12), (.ref b599), (.ref b599)])) rfl rfl (hb hby at_188)
  have N641 := Fr.snoc X641 N638 ge603
  have C642 : CHr Z EL1 s.vm h0 T586.vm h641 := C639.trans (CHr.wr W641 (Safe.arv hZ586.alike V638 (by decide)) C639.1)
  have sz641 : h638.size ≤ h641.size := Nat.le_of_eq W641.size.symm
  have nz641 := Nat.le_trans nz638 sz641
  have V641 : Arv Z h641 b599 k599 .char (18 : Int32) [(.int (nar .char c0)), (.int (nar .char c1)), (.int (nar .char (32 : Int32))), (.int (nar .char (62 : Int32))), (.int (nar .char (61 : Int32))), (.int (nar .char (32 : Int32))), (.int (nar .char (63 : Int32))), (.int (nar .char (32 : Int32))), (.int (nar .char (65 : Int32))), (.int (nar .char (78 : Int32))), (.int (nar .char (68 : Int32))), (.int (nar .char (32 : Int32))), (.int (nar .char c0)), (.int 0), (.int 0), (.int 0), (.int 0), (.int 0)] (.int 0) := Arv.set Ar640 q640 S640 M640 H640 G640 (fits_nar_char _) W641 12 rfl (Nat.le_of_ble_eq_true rfl)
  obtain ⟨cl643, Ar643, q643, S643, M643, H643, G643⟩ := id V641
  have hin643 : ¬ ((13 : Int32) < 0 ∨ cl643.slots.size ≤ ((13 : Int32)).toNatClampNeg) := inb_of S643 ⟨by decide, by decide⟩
  obtain ⟨T644, h644, X644, e644, W644, st644⟩ := stC X641 hx hZ586 e641 Ar643 (j := (13 : Int32)) hin643 (g := (mkF m 194 (la27 p0 p1 p2 p3 p4 c0 c1 b467 (1 : Int32) o_572 b574 x_586) [(.int c1), (.int 13), (.ref b599), (.ref b599)])) rfl rfl (hb hby at_194)
  have N644 := Fr.snoc X644 N641 ge603
  have C645 : CHr Z EL1 s.vm h0 T586.vm h644 := C642.trans (CHr.wr W644 (Safe.arv hZ586.alike V641 (by decide)) C642.1)
  have sz644 : h641.size ≤ h644.size := Nat.le_of_eq W644.size.symm
  have nz644 := Nat.le_trans nz641 sz644
  have V644 : Arv Z h644 b599 k599 .char (18 : Int32) [(.int (nar .char c0)), (.int (nar .char c1)), (.int (nar .char (32 : Int32))), (.int (nar .char (62 : Int32))), (.int (nar .char (61 : Int32))), (.int (nar .char (32 : Int32))), (.int (nar .char (63 : Int32))), (.int (nar .char (32 : Int32))), (.int (nar .char (65 : Int32))), (.int (nar .char (78 : Int32))), (.int (nar .char (68 : Int32))), (.int (nar .char (32 : Int32))), (.int (nar .char c0)), (.int (nar .char c1)), (.int 0), (.int 0), (.int 0), (.int 0)] (.int 0) := Arv.set Ar643 q643 S643 M643 H643 G643 (fits_nar_char _) W644 13 rfl (Nat.le_of_ble_eq_true rfl)
  obtain ⟨cl646, Ar646, q646, S646, M646, H646, G646⟩ := id V644
  have hin646 : ¬ ((14 : Int32) < 0 ∨ cl646.slots.size ≤ ((14 : Int32)).toNatClampNeg) := inb_of S646 ⟨by decide, by decide⟩
  obtain ⟨T647, h647, X647, e647, W647, st647⟩ := stC X644 hx hZ586 e644 Ar646 (j := (14 : Int32)) hin646 (g := (mkF m 200 (la27 p0 p1 p2 p3 p4 c0 c1 b467 (1 : Int32) o_572 b574 x_586) [(.int 32), (.int 14), (.ref b599), (.ref b599)])) rfl rfl (hb hby at_200)
  have N647 := Fr.snoc X647 N644 ge603
  have C648 : CHr Z EL1 s.vm h0 T586.vm h647 := C645.trans (CHr.wr W647 (Safe.arv hZ586.alike V644 (by decide)) C645.1)
  have sz647 : h644.size ≤ h647.size := Nat.le_of_eq W647.size.symm
  have nz647 := Nat.le_trans nz644 sz647
  have V647 : Arv Z h647 b599 k599 .char (18 : Int32) [(.int (nar .char c0)), (.int (nar .char c1)), (.int (nar .char (32 : Int32))), (.int (nar .char (62 : Int32))), (.int (nar .char (61 : Int32))), (.int (nar .char (32 : Int32))), (.int (nar .char (63 : Int32))), (.int (nar .char (32 : Int32))), (.int (nar .char (65 : Int32))), (.int (nar .char (78 : Int32))), (.int (nar .char (68 : Int32))), (.int (nar .char (32 : Int32))), (.int (nar .char c0)), (.int (nar .char c1)), (.int (nar .char (32 : Int32))), (.int 0), (.int 0), (.int 0)] (.int 0) := Arv.set Ar646 q646 S646 M646 H646 G646 (fits_nar_char _) W647 14 rfl (Nat.le_of_ble_eq_true rfl)
  obtain ⟨cl649, Ar649, q649, S649, M649, H649, G649⟩ := id V647
  have hin649 : ¬ ((15 : Int32) < 0 ∨ cl649.slots.size ≤ ((15 : Int32)).toNatClampNeg) := inb_of S649 ⟨by decide, by decide⟩
  obtain ⟨T650, h650, X650, e650, W650, st650⟩ := stC X647 hx hZ586 e647 Ar649 (j := (15 : Int32)) hin649 (g := (mkF m 206 (la27 p0 p1 p2 p3 p4 c0 c1 b467 (1 : Int32) o_572 b574 x_586) [(.int 60), (.int 15), (.ref b599), (.ref b599)])) rfl rfl (hb hby at_206)
  have N650 := Fr.snoc X650 N647 ge603
  have C651 : CHr Z EL1 s.vm h0 T586.vm h650 := C648.trans (CHr.wr W650 (Safe.arv hZ586.alike V647 (by decide)) C648.1)
  have sz650 : h647.size ≤ h650.size := Nat.le_of_eq W650.size.symm
  have nz650 := Nat.le_trans nz647 sz650
  have V650 : Arv Z h650 b599 k599 .char (18 : Int32) [(.int (nar .char c0)), (.int (nar .char c1)), (.int (nar .char (32 : Int32))), (.int (nar .char (62 : Int32))), (.int (nar .char (61 : Int32))), (.int (nar .char (32 : Int32))), (.int (nar .char (63 : Int32))), (.int (nar .char (32 : Int32))), (.int (nar .char (65 : Int32))), (.int (nar .char (78 : Int32))), (.int (nar .char (68 : Int32))), (.int (nar .char (32 : Int32))), (.int (nar .char c0)), (.int (nar .char c1)), (.int (nar .char (32 : Int32))), (.int (nar .char (60 : Int32))), (.int 0), (.int 0)] (.int 0) := Arv.set Ar649 q649 S649 M649 H649 G649 (fits_nar_char _) W650 15 rfl (Nat.le_of_ble_eq_true rfl)
  obtain ⟨cl652, Ar652, q652, S652, M652, H652, G652⟩ := id V650
  have hin652 : ¬ ((16 : Int32) < 0 ∨ cl652.slots.size ≤ ((16 : Int32)).toNatClampNeg) := inb_of S652 ⟨by decide, by decide⟩
  obtain ⟨T653, h653, X653, e653, W653, st653⟩ := stC X650 hx hZ586 e650 Ar652 (j := (16 : Int32)) hin652 (g := (mkF m 212 (la27 p0 p1 p2 p3 p4 c0 c1 b467 (1 : Int32) o_572 b574 x_586) [(.int 32), (.int 16), (.ref b599), (.ref b599)])) rfl rfl (hb hby at_212)
  have N653 := Fr.snoc X653 N650 ge603
  have C654 : CHr Z EL1 s.vm h0 T586.vm h653 := C651.trans (CHr.wr W653 (Safe.arv hZ586.alike V650 (by decide)) C651.1)
  have sz653 : h650.size ≤ h653.size := Nat.le_of_eq W653.size.symm
  have nz653 := Nat.le_trans nz650 sz653
  have V653 : Arv Z h653 b599 k599 .char (18 : Int32) [(.int (nar .char c0)), (.int (nar .char c1)), (.int (nar .char (32 : Int32))), (.int (nar .char (62 : Int32))), (.int (nar .char (61 : Int32))), (.int (nar .char (32 : Int32))), (.int (nar .char (63 : Int32))), (.int (nar .char (32 : Int32))), (.int (nar .char (65 : Int32))), (.int (nar .char (78 : Int32))), (.int (nar .char (68 : Int32))), (.int (nar .char (32 : Int32))), (.int (nar .char c0)), (.int (nar .char c1)), (.int (nar .char (32 : Int32))), (.int (nar .char (60 : Int32))), (.int (nar .char (32 : Int32))), (.int 0)] (.int 0) := Arv.set Ar652 q652 S652 M652 H652 G652 (fits_nar_char _) W653 16 rfl (Nat.le_of_ble_eq_true rfl)
  obtain ⟨cl655, Ar655, q655, S655, M655, H655, G655⟩ := id V653
  have hin655 : ¬ ((17 : Int32) < 0 ∨ cl655.slots.size ≤ ((17 : Int32)).toNatClampNeg) := inb_of S655 ⟨by decide, by decide⟩
  obtain ⟨T656, h656, X656, e656, W656, st656⟩ := stC X653 hx hZ586 e653 Ar655 (j := (17 : Int32)) hin655 (g := (mkF m 218 (la27 p0 p1 p2 p3 p4 c0 c1 b467 (1 : Int32) o_572 b574 x_586) [(.int 63), (.int 17), (.ref b599), (.ref b599)])) rfl rfl (hb hby at_218)
  have N656 := Fr.snoc X656 N653 ge603
  have C657 : CHr Z EL1 s.vm h0 T586.vm h656 := C654.trans (CHr.wr W656 (Safe.arv hZ586.alike V653 (by decide)) C654.1)
  have sz656 : h653.size ≤ h656.size := Nat.le_of_eq W656.size.symm
  have nz656 := Nat.le_trans nz653 sz656
  have V656 : Arv Z h656 b599 k599 .char (18 : Int32) [(.int (nar .char c0)), (.int (nar .char c1)), (.int (nar .char (32 : Int32))), (.int (nar .char (62 : Int32))), (.int (nar .char (61 : Int32))), (.int (nar .char (32 : Int32))), (.int (nar .char (63 : Int32))), (.int (nar .char (32 : Int32))), (.int (nar .char (65 : Int32))), (.int (nar .char (78 : Int32))), (.int (nar .char (68 : Int32))), (.int (nar .char (32 : Int32))), (.int (nar .char c0)), (.int (nar .char c1)), (.int (nar .char (32 : Int32))), (.int (nar .char (60 : Int32))), (.int (nar .char (32 : Int32))), (.int (nar .char (63 : Int32)))] (.int 0) := Arv.set Ar655 q655 S655 M655 H655 G655 (fits_nar_char _) W656 17 rfl (Nat.le_of_ble_eq_true rfl)
  obtain ⟨T658, h658, X658, e658, E658, A658, D658, U658, st658⟩ := newO X656 hx hZ586 hown586 (wd hw 0 rfl) (wd hw 1 rfl) (wd hw 2 rfl) e656 (g := (mkF m 273 (la28 p0 p1 p2 p3 p4 c0 c1 b467 (1 : Int32) o_572 b574 x_586 b599) [(.ref x_586)])) rfl (hb hby at_273) (by decide) (by decide)
  obtain ⟨b658, g658⟩ : ∃ z, z = h656.size := ⟨_, rfl⟩
  rw [← g658] at A658 D658 U658 st658
  have C659 : CHr Z EL1 s.vm h0 T586.vm h658 := C657.trans (CHr.ext E658 C657.1)
  have sz658 : h656.size ≤ h658.size := E658.1
  have nz658 := Nat.le_trans nz656 sz658
  have lt658 := ltA A658.lt
  have B658 : Safe Z EL1 T586.vm h658 b658 := Safe.ext E658 C657.1 (Safe.new (by omega))
  have f660 : Fld Z h658 b658 kS1 "coder" "B" (.int 0) := D658 (Or.inr (wd hw 27 rfl)) (ty := .byte) (by decide)
  have f661 : Fld Z h658 b658 kS1 "value" "[B" .null := D658 (Or.inr (wd hw 29 rfl)) (ty := (.array .byte)) (by decide)
  have f662 : Arv Z h658 b599 k599 .char (18 : Int32) [(.int (nar .char c0)), (.int (nar .char c1)), (.int (nar .char (32 : Int32))), (.int (nar .char (62 : Int32))), (.int (nar .char (61 : Int32))), (.int (nar .char (32 : Int32))), (.int (nar .char (63 : Int32))), (.int (nar .char (32 : Int32))), (.int (nar .char (65 : Int32))), (.int (nar .char (78 : Int32))), (.int (nar .char (68 : Int32))), (.int (nar .char (32 : Int32))), (.int (nar .char c0)), (.int (nar .char c1)), (.int (nar .char (32 : Int32))), (.int (nar .char (60 : Int32))), (.int (nar .char (32 : Int32))), (.int (nar .char (63 : Int32)))] (.int 0) := (V656.ext E658)
  have V663 : Arv Z h658 b599 k599 .char (18 : Int32) [(.int c0), (.int c1), (.int 32), (.int 62), (.int 61), (.int 32), (.int 63), (.int 32), (.int 65), (.int 78), (.int 68), (.int 32), (.int c0), (.int c1), (.int 32), (.int 60), (.int 32), (.int 63)] (.int 0) := by
   have q := f662
   rw [qc0, qc1, show nar .char (32 : Int32) = (32 : Int32) from by decide, show nar .char (62 : Int32) = (62 : Int32) from by decide, show nar .char (61 : Int32) = (61 : Int32) from by decide, show nar .char (63 : Int32) = (63 : Int32) from by decide, show nar .char (65 : Int32) = (65 : Int32) from by decide, show nar .char (78 : Int32) = (78 : Int32) from by decide, show nar .char (68 : Int32) = (68 : Int32) from by decide, show nar .char (60 : Int32) = (60 : Int32) from by decide] at q
   exact q
  have f664 : Old Z n0 h658 := (((((((((((((((((((((f588.keep K586 all0).ext E599).wr W602 ge603).wr W608 ge603).wr W611 ge603).wr W614 ge603).wr W617 ge603).wr W620 ge603).wr W623 ge603).wr W626 ge603).wr W629 ge603).wr W632 ge603).wr W635 ge603).wr W638 ge603).wr W641 ge603).wr W644 ge603).wr W647 ge603).wr W650 ge603).wr W653 ge603).wr W656 ge603).ext E658)
  have S665 : Sta Z h658 kS1 "COMPACT_STRINGS" "Z" (.int z0) := SZc.ext f664.2
  obtain ⟨v666, _, ⟨T666, L666, k666, n666⟩, -, X666, ⟨Lc666, hQ666, l666, y666, z666⟩, st666⟩ := X658.specialBack hx (y := (⟨kS1, "<init>", "([C)V"⟩ : MethodName)) rfl hown586 (mvT hZ586 (wd hw 4 rfl)) (mvT hZ586 (wd hw 5 rfl)) (mvT hZ586 (wd hw 6 rfl)) (by decide) (StrChars.Road.backV (W := 2) hZ586 (own_hws hw) (kI := 4) (wd hw 1 rfl) (cs := ([c0, c1, (32 : Int32), (62 : Int32), (61 : Int32), (32 : Int32), (63 : Int32), (32 : Int32), (65 : Int32), (78 : Int32), (68 : Int32), (32 : Int32), c0, c1, (32 : Int32), (60 : Int32), (32 : Int32), (63 : Int32)] : List Int32)) (bs := ([c0, c1, (32 : Int32), (62 : Int32), (61 : Int32), (32 : Int32), (63 : Int32), (32 : Int32), (65 : Int32), (78 : Int32), (68 : Int32), (32 : Int32), c0, c1, (32 : Int32), (60 : Int32), (32 : Int32), (63 : Int32)] : List Int32).map (fun c => c.toInt8.toInt32)) (n := 18) (n0 := n0) (by omega) (by omega) A658 f661 f660 V663 S665 hz0 rfl rfl (by decide) (by decide) hal rfl (by decide) (by decide)) (g := (mkF m 279 (la28 p0 p1 p2 p3 p4 c0 c1 b467 (1 : Int32) o_572 b574 x_586 b599) [(.ref b599), (.ref b658), (.ref b658), (.ref x_586)])) rfl (by rw [hml]; rfl) (Steps.refl _) (a := b658) (argsL := [(.ref b599)]) (rest := [(.ref b658), (.ref x_586)]) (lenOf pd_25 rfl) rfl (wz rfl) (hb hby at_279) (fun _ _ => ⟨rfl, e658, (by decide : 20 + 1 ≤ _), (by decide : 183 + 18 ≤ _)⟩)
  dsimp only [Pt.U, Pt.locs, Pt.cells, Pt.slots] at X666 l666 y666 z666 st666 hQ666
  rw [l666, y666, z666] at X666
  obtain ⟨h666, e666⟩ : ∃ z, T666.heap = z := ⟨_, rfl⟩
  rw [e666] at hQ666
  obtain ⟨rfl, N666q, K666, A666, Fc666, t666, kb666, u666, lo666, nt666, Fv666, V666⟩ := hQ666
  have N666 := Fr.app N656 N666q
  have ne667 : t_586 ≠ b599 := neN (by omega)
  have f668 : Arv Z h658 t_586 k_586 .byte (18 : Int32) [(.int (c0.toInt8.toInt32)), (.int (c1.toInt8.toInt32)), (.int 32), (.int 62), (.int 61), (.int 32), (.int 63), (.int 32), (.int 65), (.int 78), (.int 68), (.int 32), (.int (c0.toInt8.toInt32)), (.int (c1.toInt8.toInt32)), (.int 32), (.int 60), (.int 32), (.int 63)] (.int 0) := ((((((((((((((((((((p586_3.ext E599).other W602 ne667).other W608 ne667).other W611 ne667).other W614 ne667).other W617 ne667).other W620 ne667).other W623 ne667).other W626 ne667).other W629 ne667).other W632 ne667).other W635 ne667).other W638 ne667).other W641 ne667).other W644 ne667).other W647 ne667).other W650 ne667).other W653 ne667).other W656 ne667).ext E658)
  have ne669 : b658 ≠ t_586 := Exa.neArv A658 f668 (wd hw 1 rfl)
  have C670 : CHr Z EL1 s.vm h0 T586.vm h666 := C659.trans (CHr.keep K666 (sfS B658 sf0) C659.1)
  have sz666 : h658.size ≤ h666.size := K666.1
  have nz666 := Nat.le_trans nz658 sz666
  have lt666 := ltA V666.lt
  have hcd666 : StrChars.Road.CodA ([c0, c1, (32 : Int32), (62 : Int32), (61 : Int32), (32 : Int32), (63 : Int32), (32 : Int32), (65 : Int32), (78 : Int32), (68 : Int32), (32 : Int32), c0, c1, (32 : Int32), (60 : Int32), (32 : Int32), (63 : Int32)] : List Int32) 0 (18 : Int32) ((([c0, c1, (32 : Int32), (62 : Int32), (61 : Int32), (32 : Int32), (63 : Int32), (32 : Int32), (65 : Int32), (78 : Int32), (68 : Int32), (32 : Int32), c0, c1, (32 : Int32), (60 : Int32), (32 : Int32), (63 : Int32)] : List Int32).map (fun c => c.toInt8.toInt32)).map Value.int) := own_codn rfl (fun c hc => (hal c hc).2)
  have f671 : Exa Z h666 x_586 kS1 := ((((((((((((((((((((f604.wr W602).wr W608).wr W611).wr W614).wr W617).wr W620).wr W623).wr W626).wr W629).wr W632).wr W635).wr W638).wr W641).wr W644).wr W647).wr W650).wr W653).wr W656).ext E658).keep K666)
  have ne672 : x_586 ≠ b658 := neN (by omega)
  have f673 : Fld Z h666 x_586 kS1 "value" "[B" (.ref t_586) := (((((((((((((((((((((p586_2.ext E599).other W602 (Or.inl (Ne.symm ne605))).other W608 (Or.inl (Ne.symm ne605))).other W611 (Or.inl (Ne.symm ne605))).other W614 (Or.inl (Ne.symm ne605))).other W617 (Or.inl (Ne.symm ne605))).other W620 (Or.inl (Ne.symm ne605))).other W623 (Or.inl (Ne.symm ne605))).other W626 (Or.inl (Ne.symm ne605))).other W629 (Or.inl (Ne.symm ne605))).other W632 (Or.inl (Ne.symm ne605))).other W635 (Or.inl (Ne.symm ne605))).other W638 (Or.inl (Ne.symm ne605))).other W641 (Or.inl (Ne.symm ne605))).other W644 (Or.inl (Ne.symm ne605))).other W647 (Or.inl (Ne.symm ne605))).other W650 (Or.inl (Ne.symm ne605))).other W653 (Or.inl (Ne.symm ne605))).other W656 (Or.inl (Ne.symm ne605))).ext E658).keep K666 (ninS ne672 nin0))
  have f674 : Fld Z h666 x_586 kS1 "coder" "B" (.int 0) := (((((((((((((((((((((p586_1.ext E599).other W602 (Or.inl (Ne.symm ne605))).other W608 (Or.inl (Ne.symm ne605))).other W611 (Or.inl (Ne.symm ne605))).other W614 (Or.inl (Ne.symm ne605))).other W617 (Or.inl (Ne.symm ne605))).other W620 (Or.inl (Ne.symm ne605))).other W623 (Or.inl (Ne.symm ne605))).other W626 (Or.inl (Ne.symm ne605))).other W629 (Or.inl (Ne.symm ne605))).other W632 (Or.inl (Ne.symm ne605))).other W635 (Or.inl (Ne.symm ne605))).other W638 (Or.inl (Ne.symm ne605))).other W641 (Or.inl (Ne.symm ne605))).other W644 (Or.inl (Ne.symm ne605))).other W647 (Or.inl (Ne.symm ne605))).other W650 (Or.inl (Ne.symm ne605))).other W653 (Or.inl (Ne.symm ne605))).other W656 (Or.inl (Ne.symm ne605))).ext E658).keep K666 (ninS ne672 nin0))
  have f675 : Arv Z h666 t_586 k_586 .byte (18 : Int32) [(.int (c0.toInt8.toInt32)), (.int (c1.toInt8.toInt32)), (.int 32), (.int 62), (.int 61), (.int 32), (.int 63), (.int 32), (.int 65), (.int 78), (.int 68), (.int 32), (.int (c0.toInt8.toInt32)), (.int (c1.toInt8.toInt32)), (.int 32), (.int 60), (.int 32), (.int 63)] (.int 0) := (f668.keep K666 (ninS (Ne.symm ne669) nin0))
  have ge676 : n0 ≤ b658 := by omega
  have f677 : Old Z n0 h666 := (f664.keep K666 (allS ge676 all0))
  have S678 : Sta Z h666 kS1 "COMPACT_STRINGS" "Z" (.int z0) := SZc.ext f677.2
  obtain ⟨cq679, kq679, q679a, q679b, q679c⟩ := isOf hZ586 e666 f671
  obtain ⟨v679, _, ⟨T679, L679, k679, n679⟩, -, X679, ⟨Lc679, hQ679, l679, y679, z679⟩, st679⟩ := X666.virtualBack hx (y := (⟨kS1, "equals", "(Ljava/lang/Object;)Z"⟩ : MethodName)) (z := (⟨kS1, "equals", "(Ljava/lang/Object;)Z"⟩ : MethodName)) hown586 (mvT hZ586 (wd hw 190 rfl)) (mvT hZ586 (wd hw 191 rfl)) (notFace_of_selects (args := #[]) (mvT hZ586 (wd hw 193 rfl))) (mvT hZ586 (wd hw 193 rfl)) (mvT hZ586 (wd hw 192 rfl)) (by decide) (StrChars.Road.eqW (W := 0) hZ586 (own_heq hw) (kI := 4) (wd hw 1 rfl) f671 f673 f674 f675 hcg (own_up hal) (Nat.le_of_ble_eq_true rfl) A666 Fv666 Fc666 V666 hcd666 (own_up hal) (Nat.le_of_ble_eq_true rfl) S678 hz0 (by decide) (by decide)) q679a q679c (g := (mkF m 282 (la28 p0 p1 p2 p3 p4 c0 c1 b467 (1 : Int32) o_572 b574 x_586 b599) [(.ref b658), (.ref x_586)])) rfl (by rw [hml]; rfl) (Steps.refl _) (argsL := [(.ref b658)]) (rest := []) (lenOf pd_30 rfl) rfl (wz rfl) (hb hby at_282) (fun _ _ => ⟨rfl, e666, (by decide : 21 + 0 ≤ _), (by decide : 201 + 0 ≤ _)⟩)
  dsimp only [Pt.U, Pt.locs, Pt.cells, Pt.slots] at X679 l679 y679 z679 st679 hQ679
  rw [l679, y679, z679] at X679
  obtain ⟨hv679, rfl, e679⟩ := hQ679
  obtain rfl : v679 = some (.int (own_eqs ([c0, c1, (32 : Int32), (62 : Int32), (61 : Int32), (32 : Int32), (63 : Int32), (32 : Int32), (65 : Int32), (78 : Int32), (68 : Int32), (32 : Int32), c0, c1, (32 : Int32), (60 : Int32), (32 : Int32), (63 : Int32)] : List Int32) ([c0, c1, (32 : Int32), (62 : Int32), (61 : Int32), (32 : Int32), (63 : Int32), (32 : Int32), (65 : Int32), (78 : Int32), (68 : Int32), (32 : Int32), c0, c1, (32 : Int32), (60 : Int32), (32 : Int32), (63 : Int32)] : List Int32))) := by
   rcases hv679 with ⟨q, r⟩ | ⟨q, r⟩
   ·rw [q, own_eqs, if_pos r]
   ·rw [q, own_eqs, if_neg r]
  have N679 : Fr n0 _ := Fr.app N666 (Fr.nil n0)
  obtain ⟨fs, hr, hrun, hended, hE⟩ := X679.leaveW hS586 (by rw [e679]; omega) (v := some (.int 1)) (fun h => by rw [Bd.returns] at h; cases h)
  have CE := C670.trans (CHv.at X679 hZ586 (own_EW hw) C670.1)
  refine ⟨_, _, pre491 _ ?_, hrun, hended, _, _, rfl, ?_, ?_, ⟨hE.1, hE.2.1, hE.2.2.1, hE.2.2.2.mono (by decide) (by decide)⟩⟩
  ·show GO p e below T488 (mkF m 41 (la23 p0 p1 p2 p3 p4 c0 c1 b467) [(.int (p2 &&& (1 : Int32)))]) _
   refine XS.ifNo X488.here hx rfl (hb hby at_41) rfl ((if0 _ _).trans (feq (hb492 : ¬ ((p2 &&& (1 : Int32)) = (0 : Int32)))).1) ?_
   show GO p e below T488 (mkF m 44 (la23 p0 p1 p2 p3 p4 c0 c1 b467) []) _
   refine XS.iconst X488.here hx rfl (hb hby at_44) ?_
   show GO p e below T488 (mkF m 45 (la23 p0 p1 p2 p3 p4 c0 c1 b467) [(.int 1)]) _
   refine XS.goto X488.here hx rfl (pc0 := 45) (pc' := 49) rfl (hb hby at_45) (by decide) (by decide) ?_
   show GO p e below T488 (mkF m 49 (la23 p0 p1 p2 p3 p4 c0 c1 b467) [(.int 1)]) _
   refine XS.istore X488.here hx rfl (hb hby at_49) rfl (l' := (la24 p0 p1 p2 p3 p4 c0 c1 b467 (1 : Int32))) rfl ?_
   show GO p e below T488 (mkF m 51 (la24 p0 p1 p2 p3 p4 c0 c1 b467 (1 : Int32)) []) _
   refine XS.iload X488.here hx rfl (hb hby at_51) rfl ?_
   show GO p e below T488 (mkF m 53 (la24 p0 p1 p2 p3 p4 c0 c1 b467 (1 : Int32)) [(.int 1)]) _
   refine XS.ifNo X488.here hx rfl (hb hby at_53) rfl ((if0 _ _).trans (feq ((by decide) : ¬ ((1 : Int32) = (0 : Int32)))).1) ?_
   show GO p e below T488 (mkF m 56 (la24 p0 p1 p2 p3 p4 c0 c1 b467 (1 : Int32)) []) _
   refine XS.iload X488.here hx rfl (hb hby at_56) rfl ?_
   show GO p e below T488 (mkF m 58 (la24 p0 p1 p2 p3 p4 c0 c1 b467 (1 : Int32)) [(.int p4)]) _
   refine XS.sipush X488.here hx rfl (hb hby at_58) ?_
   show GO p e below T488 (mkF m 61 (la24 p0 p1 p2 p3 p4 c0 c1 b467 (1 : Int32)) [(.int 255), (.int p4)]) _
   refine XS.iand X488.here hx rfl (hb hby at_61) rfl ?_
   show GO p e below T488 (mkF m 62 (la24 p0 p1 p2 p3 p4 c0 c1 b467 (1 : Int32)) [(.int (p4 &&& (255 : Int32)))]) _
   refine XS.i2c X488.here hx rfl (hb hby at_62) rfl ?_
   show GO p e below T488 (mkF m 63 (la24 p0 p1 p2 p3 p4 c0 c1 b467 (1 : Int32)) [(.int ((p4 &&& (255 : Int32)).toUInt32.toUInt16.toUInt32.toInt32))]) _
   refine st568 _ ?_
   show GO p e below T568 (mkF m 66 (la24 p0 p1 p2 p3 p4 c0 c1 b467 (1 : Int32)) [(.ref x_568)]) _
   refine st572 _ ?_
   show GO p e below T572 (mkF m 69 (la24 p0 p1 p2 p3 p4 c0 c1 b467 (1 : Int32)) [(.ref o_572)]) _
   refine XS.astore X572.here hx rfl (hb hby at_69) rfl rfl (l' := (la25 p0 p1 p2 p3 p4 c0 c1 b467 (1 : Int32) o_572)) rfl ?_
   show GO p e below T572 (mkF m 71 (la25 p0 p1 p2 p3 p4 c0 c1 b467 (1 : Int32) o_572) []) _
   refine XS.goto X572.here hx rfl (pc0 := 71) (pc' := 79) rfl (hb hby at_71) (by decide) (by decide) ?_
   show GO p e below T572 (mkF m 79 (la25 p0 p1 p2 p3 p4 c0 c1 b467 (1 : Int32) o_572) []) _
   refine st574 _ ?_
   show GO p e below T574 (mkF m 82 (la25 p0 p1 p2 p3 p4 c0 c1 b467 (1 : Int32) o_572) [(.ref b574)]) _
   refine XS.dup X574.here hx rfl (hb hby at_82) rfl rfl ?_
   show GO p e below T574 (mkF m 83 (la25 p0 p1 p2 p3 p4 c0 c1 b467 (1 : Int32) o_572) [(.ref b574), (.ref b574)]) _
   refine XS.iloadN X574.here hx rfl (hb hby at_83) rfl ?_
   show GO p e below T574 (mkF m 84 (la25 p0 p1 p2 p3 p4 c0 c1 b467 (1 : Int32) o_572) [(.int p3), (.ref b574), (.ref b574)]) _
   refine XS.sipush X574.here hx rfl (hb hby at_84) ?_
   show GO p e below T574 (mkF m 87 (la25 p0 p1 p2 p3 p4 c0 c1 b467 (1 : Int32) o_572) [(.int 255), (.int p3), (.ref b574), (.ref b574)]) _
   refine XS.iand X574.here hx rfl (hb hby at_87) rfl ?_
   show GO p e below T574 (mkF m 88 (la25 p0 p1 p2 p3 p4 c0 c1 b467 (1 : Int32) o_572) [(.int (p3 &&& (255 : Int32))), (.ref b574), (.ref b574)]) _
   refine XS.i2c X574.here hx rfl (hb hby at_88) rfl ?_
   show GO p e below T574 (mkF m 89 (la25 p0 p1 p2 p3 p4 c0 c1 b467 (1 : Int32) o_572) [(.int ((p3 &&& (255 : Int32)).toUInt32.toUInt16.toUInt32.toInt32)), (.ref b574), (.ref b574)]) _
   refine st578 _ ?_
   show GO p e below T578 (mkF m 92 (la25 p0 p1 p2 p3 p4 c0 c1 b467 (1 : Int32) o_572) [(.ref x_578), (.ref b574), (.ref b574)]) _
   refine XS.aload X578.here hx rfl (hb hby at_92) rfl rfl ?_
   show GO p e below T578 (mkF m 94 (la25 p0 p1 p2 p3 p4 c0 c1 b467 (1 : Int32) o_572) [(.ref o_572), (.ref x_578), (.ref b574), (.ref b574)]) _
   refine st581.trans ?_
   show GO p e below T581 (mkF m 97 (la25 p0 p1 p2 p3 p4 c0 c1 b467 (1 : Int32) o_572) [(.ref b574)]) _
   refine XS.astore X581.here hx rfl (hb hby at_97) rfl rfl (l' := (la26 p0 p1 p2 p3 p4 c0 c1 b467 (1 : Int32) o_572 b574)) rfl ?_
   show GO p e below T581 (mkF m 99 (la26 p0 p1 p2 p3 p4 c0 c1 b467 (1 : Int32) o_572 b574) []) _
   refine XS.aload X581.here hx rfl (hb hby at_99) rfl rfl ?_
   show GO p e below T581 (mkF m 101 (la26 p0 p1 p2 p3 p4 c0 c1 b467 (1 : Int32) o_572 b574) [(.ref b574)]) _
   refine XS.aload X581.here hx rfl (hb hby at_101) rfl rfl ?_
   show GO p e below T581 (mkF m 103 (la26 p0 p1 p2 p3 p4 c0 c1 b467 (1 : Int32) o_572 b574) [(.ref b467), (.ref b574)]) _
   refine st586.trans ?_
   show GO p e below T586 (mkF m 106 (la26 p0 p1 p2 p3 p4 c0 c1 b467 (1 : Int32) o_572 b574) [(.ref x_586)]) _
   refine XS.astore X586.here hx rfl (hb hby at_106) rfl rfl (l' := (la27 p0 p1 p2 p3 p4 c0 c1 b467 (1 : Int32) o_572 b574 x_586)) rfl ?_
   show GO p e below T586 (mkF m 108 (la27 p0 p1 p2 p3 p4 c0 c1 b467 (1 : Int32) o_572 b574 x_586) []) _
   refine XS.iload X586.here hx rfl (hb hby at_108) rfl ?_
   show GO p e below T586 (mkF m 110 (la27 p0 p1 p2 p3 p4 c0 c1 b467 (1 : Int32) o_572 b574 x_586) [(.int 1)]) _
   refine XS.ifNo X586.here hx rfl (hb hby at_110) rfl ((if0 _ _).trans (feq ((by decide) : ¬ ((1 : Int32) = (0 : Int32)))).1) ?_
   show GO p e below T586 (mkF m 113 (la27 p0 p1 p2 p3 p4 c0 c1 b467 (1 : Int32) o_572 b574 x_586) []) _
   refine XS.bipush X586.here hx rfl (hb hby at_113) ?_
   show GO p e below T586 (mkF m 115 (la27 p0 p1 p2 p3 p4 c0 c1 b467 (1 : Int32) o_572 b574 x_586) [(.int 18)]) _
   refine st599 _ ?_
   show GO p e below T599 (mkF m 117 (la27 p0 p1 p2 p3 p4 c0 c1 b467 (1 : Int32) o_572 b574 x_586) [(.ref b599)]) _
   refine XS.dup X599.here hx rfl (hb hby at_117) rfl rfl ?_
   show GO p e below T599 (mkF m 118 (la27 p0 p1 p2 p3 p4 c0 c1 b467 (1 : Int32) o_572 b574 x_586) [(.ref b599), (.ref b599)]) _
   refine XS.iconst X599.here hx rfl (hb hby at_118) ?_
   show GO p e below T599 (mkF m 119 (la27 p0 p1 p2 p3 p4 c0 c1 b467 (1 : Int32) o_572 b574 x_586) [(.int 0), (.ref b599), (.ref b599)]) _
   refine XS.iload X599.here hx rfl (hb hby at_119) rfl ?_
   show GO p e below T599 (mkF m 121 (la27 p0 p1 p2 p3 p4 c0 c1 b467 (1 : Int32) o_572 b574 x_586) [(.int c0), (.int 0), (.ref b599), (.ref b599)]) _
   refine st602 _ ?_
   show GO p e below T602 (mkF m 122 (la27 p0 p1 p2 p3 p4 c0 c1 b467 (1 : Int32) o_572 b574 x_586) [(.ref b599)]) _
   refine XS.dup X602.here hx rfl (hb hby at_122) rfl rfl ?_
   show GO p e below T602 (mkF m 123 (la27 p0 p1 p2 p3 p4 c0 c1 b467 (1 : Int32) o_572 b574 x_586) [(.ref b599), (.ref b599)]) _
   refine XS.iconst X602.here hx rfl (hb hby at_123) ?_
   show GO p e below T602 (mkF m 124 (la27 p0 p1 p2 p3 p4 c0 c1 b467 (1 : Int32) o_572 b574 x_586) [(.int 1), (.ref b599), (.ref b599)]) _
   refine XS.iload X602.here hx rfl (hb hby at_124) rfl ?_
   show GO p e below T602 (mkF m 126 (la27 p0 p1 p2 p3 p4 c0 c1 b467 (1 : Int32) o_572 b574 x_586) [(.int c1), (.int 1), (.ref b599), (.ref b599)]) _
   refine st608 _ ?_
   show GO p e below T608 (mkF m 127 (la27 p0 p1 p2 p3 p4 c0 c1 b467 (1 : Int32) o_572 b574 x_586) [(.ref b599)]) _
   refine XS.dup X608.here hx rfl (hb hby at_127) rfl rfl ?_
   show GO p e below T608 (mkF m 128 (la27 p0 p1 p2 p3 p4 c0 c1 b467 (1 : Int32) o_572 b574 x_586) [(.ref b599), (.ref b599)]) _
   refine XS.iconst X608.here hx rfl (hb hby at_128) ?_
   show GO p e below T608 (mkF m 129 (la27 p0 p1 p2 p3 p4 c0 c1 b467 (1 : Int32) o_572 b574 x_586) [(.int 2), (.ref b599), (.ref b599)]) _
   refine XS.bipush X608.here hx rfl (hb hby at_129) ?_
   show GO p e below T608 (mkF m 131 (la27 p0 p1 p2 p3 p4 c0 c1 b467 (1 : Int32) o_572 b574 x_586) [(.int 32), (.int 2), (.ref b599), (.ref b599)]) _
   refine st611 _ ?_
   show GO p e below T611 (mkF m 132 (la27 p0 p1 p2 p3 p4 c0 c1 b467 (1 : Int32) o_572 b574 x_586) [(.ref b599)]) _
   refine XS.dup X611.here hx rfl (hb hby at_132) rfl rfl ?_
   show GO p e below T611 (mkF m 133 (la27 p0 p1 p2 p3 p4 c0 c1 b467 (1 : Int32) o_572 b574 x_586) [(.ref b599), (.ref b599)]) _
   refine XS.iconst X611.here hx rfl (hb hby at_133) ?_
   show GO p e below T611 (mkF m 134 (la27 p0 p1 p2 p3 p4 c0 c1 b467 (1 : Int32) o_572 b574 x_586) [(.int 3), (.ref b599), (.ref b599)]) _
   refine XS.bipush X611.here hx rfl (hb hby at_134) ?_
   show GO p e below T611 (mkF m 136 (la27 p0 p1 p2 p3 p4 c0 c1 b467 (1 : Int32) o_572 b574 x_586) [(.int 62), (.int 3), (.ref b599), (.ref b599)]) _
   refine st614 _ ?_
   show GO p e below T614 (mkF m 137 (la27 p0 p1 p2 p3 p4 c0 c1 b467 (1 : Int32) o_572 b574 x_586) [(.ref b599)]) _
   refine XS.dup X614.here hx rfl (hb hby at_137) rfl rfl ?_
   show GO p e below T614 (mkF m 138 (la27 p0 p1 p2 p3 p4 c0 c1 b467 (1 : Int32) o_572 b574 x_586) [(.ref b599), (.ref b599)]) _
   refine XS.iconst X614.here hx rfl (hb hby at_138) ?_
   show GO p e below T614 (mkF m 139 (la27 p0 p1 p2 p3 p4 c0 c1 b467 (1 : Int32) o_572 b574 x_586) [(.int 4), (.ref b599), (.ref b599)]) _
   refine XS.bipush X614.here hx rfl (hb hby at_139) ?_
   show GO p e below T614 (mkF m 141 (la27 p0 p1 p2 p3 p4 c0 c1 b467 (1 : Int32) o_572 b574 x_586) [(.int 61), (.int 4), (.ref b599), (.ref b599)]) _
   refine st617 _ ?_
   show GO p e below T617 (mkF m 142 (la27 p0 p1 p2 p3 p4 c0 c1 b467 (1 : Int32) o_572 b574 x_586) [(.ref b599)]) _
   refine XS.dup X617.here hx rfl (hb hby at_142) rfl rfl ?_
   show GO p e below T617 (mkF m 143 (la27 p0 p1 p2 p3 p4 c0 c1 b467 (1 : Int32) o_572 b574 x_586) [(.ref b599), (.ref b599)]) _
   refine XS.iconst X617.here hx rfl (hb hby at_143) ?_
   show GO p e below T617 (mkF m 144 (la27 p0 p1 p2 p3 p4 c0 c1 b467 (1 : Int32) o_572 b574 x_586) [(.int 5), (.ref b599), (.ref b599)]) _
   refine XS.bipush X617.here hx rfl (hb hby at_144) ?_
   show GO p e below T617 (mkF m 146 (la27 p0 p1 p2 p3 p4 c0 c1 b467 (1 : Int32) o_572 b574 x_586) [(.int 32), (.int 5), (.ref b599), (.ref b599)]) _
   refine st620 _ ?_
   show GO p e below T620 (mkF m 147 (la27 p0 p1 p2 p3 p4 c0 c1 b467 (1 : Int32) o_572 b574 x_586) [(.ref b599)]) _
   refine XS.dup X620.here hx rfl (hb hby at_147) rfl rfl ?_
   show GO p e below T620 (mkF m 148 (la27 p0 p1 p2 p3 p4 c0 c1 b467 (1 : Int32) o_572 b574 x_586) [(.ref b599), (.ref b599)]) _
   refine XS.bipush X620.here hx rfl (hb hby at_148) ?_
   show GO p e below T620 (mkF m 150 (la27 p0 p1 p2 p3 p4 c0 c1 b467 (1 : Int32) o_572 b574 x_586) [(.int 6), (.ref b599), (.ref b599)]) _
   refine XS.bipush X620.here hx rfl (hb hby at_150) ?_
   show GO p e below T620 (mkF m 152 (la27 p0 p1 p2 p3 p4 c0 c1 b467 (1 : Int32) o_572 b574 x_586) [(.int 63), (.int 6), (.ref b599), (.ref b599)]) _
   refine st623 _ ?_
   show GO p e below T623 (mkF m 153 (la27 p0 p1 p2 p3 p4 c0 c1 b467 (1 : Int32) o_572 b574 x_586) [(.ref b599)]) _
   refine XS.dup X623.here hx rfl (hb hby at_153) rfl rfl ?_
   show GO p e below T623 (mkF m 154 (la27 p0 p1 p2 p3 p4 c0 c1 b467 (1 : Int32) o_572 b574 x_586) [(.ref b599), (.ref b599)]) _
   refine XS.bipush X623.here hx rfl (hb hby at_154) ?_
   show GO p e below T623 (mkF m 156 (la27 p0 p1 p2 p3 p4 c0 c1 b467 (1 : Int32) o_572 b574 x_586) [(.int 7), (.ref b599), (.ref b599)]) _
   refine XS.bipush X623.here hx rfl (hb hby at_156) ?_
   show GO p e below T623 (mkF m 158 (la27 p0 p1 p2 p3 p4 c0 c1 b467 (1 : Int32) o_572 b574 x_586) [(.int 32), (.int 7), (.ref b599), (.ref b599)]) _
   refine st626 _ ?_
   show GO p e below T626 (mkF m 159 (la27 p0 p1 p2 p3 p4 c0 c1 b467 (1 : Int32) o_572 b574 x_586) [(.ref b599)]) _
   refine XS.dup X626.here hx rfl (hb hby at_159) rfl rfl ?_
   show GO p e below T626 (mkF m 160 (la27 p0 p1 p2 p3 p4 c0 c1 b467 (1 : Int32) o_572 b574 x_586) [(.ref b599), (.ref b599)]) _
   refine XS.bipush X626.here hx rfl (hb hby at_160) ?_
   show GO p e below T626 (mkF m 162 (la27 p0 p1 p2 p3 p4 c0 c1 b467 (1 : Int32) o_572 b574 x_586) [(.int 8), (.ref b599), (.ref b599)]) _
   refine XS.bipush X626.here hx rfl (hb hby at_162) ?_
   show GO p e below T626 (mkF m 164 (la27 p0 p1 p2 p3 p4 c0 c1 b467 (1 : Int32) o_572 b574 x_586) [(.int 65), (.int 8), (.ref b599), (.ref b599)]) _
   refine st629 _ ?_
   show GO p e below T629 (mkF m 165 (la27 p0 p1 p2 p3 p4 c0 c1 b467 (1 : Int32) o_572 b574 x_586) [(.ref b599)]) _
   refine XS.dup X629.here hx rfl (hb hby at_165) rfl rfl ?_
   show GO p e below T629 (mkF m 166 (la27 p0 p1 p2 p3 p4 c0 c1 b467 (1 : Int32) o_572 b574 x_586) [(.ref b599), (.ref b599)]) _
   refine XS.bipush X629.here hx rfl (hb hby at_166) ?_
   show GO p e below T629 (mkF m 168 (la27 p0 p1 p2 p3 p4 c0 c1 b467 (1 : Int32) o_572 b574 x_586) [(.int 9), (.ref b599), (.ref b599)]) _
   refine XS.bipush X629.here hx rfl (hb hby at_168) ?_
   show GO p e below T629 (mkF m 170 (la27 p0 p1 p2 p3 p4 c0 c1 b467 (1 : Int32) o_572 b574 x_586) [(.int 78), (.int 9), (.ref b599), (.ref b599)]) _
   refine st632 _ ?_
   show GO p e below T632 (mkF m 171 (la27 p0 p1 p2 p3 p4 c0 c1 b467 (1 : Int32) o_572 b574 x_586) [(.ref b599)]) _
   refine XS.dup X632.here hx rfl (hb hby at_171) rfl rfl ?_
   show GO p e below T632 (mkF m 172 (la27 p0 p1 p2 p3 p4 c0 c1 b467 (1 : Int32) o_572 b574 x_586) [(.ref b599), (.ref b599)]) _
   refine XS.bipush X632.here hx rfl (hb hby at_172) ?_
   show GO p e below T632 (mkF m 174 (la27 p0 p1 p2 p3 p4 c0 c1 b467 (1 : Int32) o_572 b574 x_586) [(.int 10), (.ref b599), (.ref b599)]) _
   refine XS.bipush X632.here hx rfl (hb hby at_174) ?_
   show GO p e below T632 (mkF m 176 (la27 p0 p1 p2 p3 p4 c0 c1 b467 (1 : Int32) o_572 b574 x_586) [(.int 68), (.int 10), (.ref b599), (.ref b599)]) _
   refine st635 _ ?_
   show GO p e below T635 (mkF m 177 (la27 p0 p1 p2 p3 p4 c0 c1 b467 (1 : Int32) o_572 b574 x_586) [(.ref b599)]) _
   refine XS.dup X635.here hx rfl (hb hby at_177) rfl rfl ?_
   show GO p e below T635 (mkF m 178 (la27 p0 p1 p2 p3 p4 c0 c1 b467 (1 : Int32) o_572 b574 x_586) [(.ref b599), (.ref b599)]) _
   refine XS.bipush X635.here hx rfl (hb hby at_178) ?_
   show GO p e below T635 (mkF m 180 (la27 p0 p1 p2 p3 p4 c0 c1 b467 (1 : Int32) o_572 b574 x_586) [(.int 11), (.ref b599), (.ref b599)]) _
   refine XS.bipush X635.here hx rfl (hb hby at_180) ?_
   show GO p e below T635 (mkF m 182 (la27 p0 p1 p2 p3 p4 c0 c1 b467 (1 : Int32) o_572 b574 x_586) [(.int 32), (.int 11), (.ref b599), (.ref b599)]) _
   refine st638 _ ?_
   show GO p e below T638 (mkF m 183 (la27 p0 p1 p2 p3 p4 c0 c1 b467 (1 : Int32) o_572 b574 x_586) [(.ref b599)]) _
   refine XS.dup X638.here hx rfl (hb hby at_183) rfl rfl ?_
   show GO p e below T638 (mkF m 184 (la27 p0 p1 p2 p3 p4 c0 c1 b467 (1 : Int32) o_572 b574 x_586) [(.ref b599), (.ref b599)]) _
   refine XS.bipush X638.here hx rfl (hb hby at_184) ?_
   show GO p e below T638 (mkF m 186 (la27 p0 p1 p2 p3 p4 c0 c1 b467 (1 : Int32) o_572 b574 x_586) [(.int 12), (.ref b599), (.ref b599)]) _
   refine XS.iload X638.here hx rfl (hb hby at_186) rfl ?_
   show GO p e below T638 (mkF m 188 (la27 p0 p1 p2 p3 p4 c0 c1 b467 (1 : Int32) o_572 b574 x_586) [(.int c0), (.int 12), (.ref b599), (.ref b599)]) _
   refine st641 _ ?_
   show GO p e below T641 (mkF m 189 (la27 p0 p1 p2 p3 p4 c0 c1 b467 (1 : Int32) o_572 b574 x_586) [(.ref b599)]) _
   refine XS.dup X641.here hx rfl (hb hby at_189) rfl rfl ?_
   show GO p e below T641 (mkF m 190 (la27 p0 p1 p2 p3 p4 c0 c1 b467 (1 : Int32) o_572 b574 x_586) [(.ref b599), (.ref b599)]) _
   refine XS.bipush X641.here hx rfl (hb hby at_190) ?_
   show GO p e below T641 (mkF m 192 (la27 p0 p1 p2 p3 p4 c0 c1 b467 (1 : Int32) o_572 b574 x_586) [(.int 13), (.ref b599), (.ref b599)]) _
   refine XS.iload X641.here hx rfl (hb hby at_192) rfl ?_
   show GO p e below T641 (mkF m 194 (la27 p0 p1 p2 p3 p4 c0 c1 b467 (1 : Int32) o_572 b574 x_586) [(.int c1), (.int 13), (.ref b599), (.ref b599)]) _
   refine st644 _ ?_
   show GO p e below T644 (mkF m 195 (la27 p0 p1 p2 p3 p4 c0 c1 b467 (1 : Int32) o_572 b574 x_586) [(.ref b599)]) _
   refine XS.dup X644.here hx rfl (hb hby at_195) rfl rfl ?_
   show GO p e below T644 (mkF m 196 (la27 p0 p1 p2 p3 p4 c0 c1 b467 (1 : Int32) o_572 b574 x_586) [(.ref b599), (.ref b599)]) _
   refine XS.bipush X644.here hx rfl (hb hby at_196) ?_
   show GO p e below T644 (mkF m 198 (la27 p0 p1 p2 p3 p4 c0 c1 b467 (1 : Int32) o_572 b574 x_586) [(.int 14), (.ref b599), (.ref b599)]) _
   refine XS.bipush X644.here hx rfl (hb hby at_198) ?_
   show GO p e below T644 (mkF m 200 (la27 p0 p1 p2 p3 p4 c0 c1 b467 (1 : Int32) o_572 b574 x_586) [(.int 32), (.int 14), (.ref b599), (.ref b599)]) _
   refine st647 _ ?_
   show GO p e below T647 (mkF m 201 (la27 p0 p1 p2 p3 p4 c0 c1 b467 (1 : Int32) o_572 b574 x_586) [(.ref b599)]) _
   refine XS.dup X647.here hx rfl (hb hby at_201) rfl rfl ?_
   show GO p e below T647 (mkF m 202 (la27 p0 p1 p2 p3 p4 c0 c1 b467 (1 : Int32) o_572 b574 x_586) [(.ref b599), (.ref b599)]) _
   refine XS.bipush X647.here hx rfl (hb hby at_202) ?_
   show GO p e below T647 (mkF m 204 (la27 p0 p1 p2 p3 p4 c0 c1 b467 (1 : Int32) o_572 b574 x_586) [(.int 15), (.ref b599), (.ref b599)]) _
   refine XS.bipush X647.here hx rfl (hb hby at_204) ?_
   show GO p e below T647 (mkF m 206 (la27 p0 p1 p2 p3 p4 c0 c1 b467 (1 : Int32) o_572 b574 x_586) [(.int 60), (.int 15), (.ref b599), (.ref b599)]) _
   refine st650 _ ?_
   show GO p e below T650 (mkF m 207 (la27 p0 p1 p2 p3 p4 c0 c1 b467 (1 : Int32) o_572 b574 x_586) [(.ref b599)]) _
   refine XS.dup X650.here hx rfl (hb hby at_207) rfl rfl ?_
   show GO p e below T650 (mkF m 208 (la27 p0 p1 p2 p3 p4 c0 c1 b467 (1 : Int32) o_572 b574 x_586) [(.ref b599), (.ref b599)]) _
   refine XS.bipush X650.here hx rfl (hb hby at_208) ?_
   show GO p e below T650 (mkF m 210 (la27 p0 p1 p2 p3 p4 c0 c1 b467 (1 : Int32) o_572 b574 x_586) [(.int 16), (.ref b599), (.ref b599)]) _
   refine XS.bipush X650.here hx rfl (hb hby at_210) ?_
   show GO p e below T650 (mkF m 212 (la27 p0 p1 p2 p3 p4 c0 c1 b467 (1 : Int32) o_572 b574 x_586) [(.int 32), (.int 16), (.ref b599), (.ref b599)]) _
   refine st653 _ ?_
   show GO p e below T653 (mkF m 213 (la27 p0 p1 p2 p3 p4 c0 c1 b467 (1 : Int32) o_572 b574 x_586) [(.ref b599)]) _
   refine XS.dup X653.here hx rfl (hb hby at_213) rfl rfl ?_
   show GO p e below T653 (mkF m 214 (la27 p0 p1 p2 p3 p4 c0 c1 b467 (1 : Int32) o_572 b574 x_586) [(.ref b599), (.ref b599)]) _
   refine XS.bipush X653.here hx rfl (hb hby at_214) ?_
   show GO p e below T653 (mkF m 216 (la27 p0 p1 p2 p3 p4 c0 c1 b467 (1 : Int32) o_572 b574 x_586) [(.int 17), (.ref b599), (.ref b599)]) _
   refine XS.bipush X653.here hx rfl (hb hby at_216) ?_
   show GO p e below T653 (mkF m 218 (la27 p0 p1 p2 p3 p4 c0 c1 b467 (1 : Int32) o_572 b574 x_586) [(.int 63), (.int 17), (.ref b599), (.ref b599)]) _
   refine st656 _ ?_
   show GO p e below T656 (mkF m 219 (la27 p0 p1 p2 p3 p4 c0 c1 b467 (1 : Int32) o_572 b574 x_586) [(.ref b599)]) _
   refine XS.astore X656.here hx rfl (hb hby at_219) rfl rfl (l' := (la28 p0 p1 p2 p3 p4 c0 c1 b467 (1 : Int32) o_572 b574 x_586 b599)) rfl ?_
   show GO p e below T656 (mkF m 221 (la28 p0 p1 p2 p3 p4 c0 c1 b467 (1 : Int32) o_572 b574 x_586 b599) []) _
   refine XS.goto X656.here hx rfl (pc0 := 221) (pc' := 266) rfl (hb hby at_221) (by decide) (by decide) ?_
   show GO p e below T656 (mkF m 266 (la28 p0 p1 p2 p3 p4 c0 c1 b467 (1 : Int32) o_572 b574 x_586 b599) []) _
   refine XS.aload X656.here hx rfl (hb hby at_266) rfl rfl ?_
   show GO p e below T656 (mkF m 268 (la28 p0 p1 p2 p3 p4 c0 c1 b467 (1 : Int32) o_572 b574 x_586 b599) [(.ref x_586)]) _
   refine XS.ifnullNo X656.here hx rfl (hb hby at_268) rfl ?_
   show GO p e below T656 (mkF m 271 (la28 p0 p1 p2 p3 p4 c0 c1 b467 (1 : Int32) o_572 b574 x_586 b599) []) _
   refine XS.aload X656.here hx rfl (hb hby at_271) rfl rfl ?_
   show GO p e below T656 (mkF m 273 (la28 p0 p1 p2 p3 p4 c0 c1 b467 (1 : Int32) o_572 b574 x_586 b599) [(.ref x_586)]) _
   refine st658 _ ?_
   show GO p e below T658 (mkF m 276 (la28 p0 p1 p2 p3 p4 c0 c1 b467 (1 : Int32) o_572 b574 x_586 b599) [(.ref b658), (.ref x_586)]) _
   refine XS.dup X658.here hx rfl (hb hby at_276) rfl rfl ?_
   show GO p e below T658 (mkF m 277 (la28 p0 p1 p2 p3 p4 c0 c1 b467 (1 : Int32) o_572 b574 x_586 b599) [(.ref b658), (.ref b658), (.ref x_586)]) _
   refine XS.aload X658.here hx rfl (hb hby at_277) rfl rfl ?_
   show GO p e below T658 (mkF m 279 (la28 p0 p1 p2 p3 p4 c0 c1 b467 (1 : Int32) o_572 b574 x_586 b599) [(.ref b599), (.ref b658), (.ref b658), (.ref x_586)]) _
   refine st666.trans ?_
   show GO p e below T666 (mkF m 282 (la28 p0 p1 p2 p3 p4 c0 c1 b467 (1 : Int32) o_572 b574 x_586 b599) [(.ref b658), (.ref x_586)]) _
   refine st679.trans ?_
   show GO p e below T679 (mkF m 285 (la28 p0 p1 p2 p3 p4 c0 c1 b467 (1 : Int32) o_572 b574 x_586 b599) [(.int (own_eqs ([c0, c1, (32 : Int32), (62 : Int32), (61 : Int32), (32 : Int32), (63 : Int32), (32 : Int32), (65 : Int32), (78 : Int32), (68 : Int32), (32 : Int32), c0, c1, (32 : Int32), (60 : Int32), (32 : Int32), (63 : Int32)] : List Int32) ([c0, c1, (32 : Int32), (62 : Int32), (61 : Int32), (32 : Int32), (63 : Int32), (32 : Int32), (65 : Int32), (78 : Int32), (68 : Int32), (32 : Int32), c0, c1, (32 : Int32), (60 : Int32), (32 : Int32), (63 : Int32)] : List Int32)))]) _
   refine XS.ifNo X679.here hx rfl (hb hby at_285) rfl ((if0 _ _).trans (feq (own_eqself _ : ¬ ((own_eqs ([c0, c1, (32 : Int32), (62 : Int32), (61 : Int32), (32 : Int32), (63 : Int32), (32 : Int32), (65 : Int32), (78 : Int32), (68 : Int32), (32 : Int32), c0, c1, (32 : Int32), (60 : Int32), (32 : Int32), (63 : Int32)] : List Int32) ([c0, c1, (32 : Int32), (62 : Int32), (61 : Int32), (32 : Int32), (63 : Int32), (32 : Int32), (65 : Int32), (78 : Int32), (68 : Int32), (32 : Int32), c0, c1, (32 : Int32), (60 : Int32), (32 : Int32), (63 : Int32)] : List Int32)) = (0 : Int32)))).1) ?_
   show GO p e below T679 (mkF m 288 (la28 p0 p1 p2 p3 p4 c0 c1 b467 (1 : Int32) o_572 b574 x_586 b599) []) _
   refine XS.iconst X679.here hx rfl (hb hby at_288) ?_
   show GO p e below T679 (mkF m 289 (la28 p0 p1 p2 p3 p4 c0 c1 b467 (1 : Int32) o_572 b574 x_586 b599) [(.int 1)]) _
   refine XS.goto X679.here hx rfl (pc0 := 289) (pc' := 293) rfl (hb hby at_289) (by decide) (by decide) ?_
   show GO p e below T679 (mkF m 293 (la28 p0 p1 p2 p3 p4 c0 c1 b467 (1 : Int32) o_572 b574 x_586 b599) [(.int 1)]) _
   exact retN X679 hx (t := .boolean) Bd.returns (by simp) (hb hby at_293) hr
  ·show Qrm0 Z p0 p1 p2 p3 p4 z0 q0 h0 n0 _ T679.heap _
   rw [e679]
   exact ⟨rfl, N679⟩
  ·show CHr Z EL1 s.vm s.heap T679.vm T679.heap
   rw [hh, e679]
   exact CE
theorem comes_1 {Post : Tables → Env → Array Value → State → Outcome → State → Prop} (hpost : ∀ tb e args s v u, (limb_1_1.after args s (.returned v) u = true ∧ limb_1_2.after args s (.returned v) u = true ∧ True) → Jvm.D.FramedW s (.returned v) u (Jvm.fieldLocs frame_1_writes args s ++ Jvm.arrayLocs frame_1_arrays args s ++ Jvm.staticLocs frame_1_statics s) 48 3456 → Post tb e args s (.returned v) u) :
  ArmFor flags0 classFile x code maxLocals ret World_1 tables_1 room_1 Calls_1 rest_1 Pre_1 Post := by
 intro l hfl _ _ p e ha hc hk s m args below hf hA hF happ hP
 obtain ⟨hcalls, hrest, hpre⟩ := hP
 obtain ⟨-, -, -, hnamed, -, -, -, hat⟩ := (Spec.applies_iff hf).mp happ
 obtain ⟨hg, hn⟩ := and_e (Cond.before_iff.mp (show (Jvm.Cond.and given_1 narrow_1).before args s = true from hpre))
 obtain ⟨g0a, g0b⟩ := and_e hg
 obtain ⟨g1a, g1b⟩ := and_e g0b
 obtain ⟨g2a, g2b⟩ := and_e g1b
 obtain ⟨g3a, g3b⟩ := and_e g2b
 obtain ⟨g4a, g4b⟩ := and_e g3b
 obtain ⟨w0, w1, w2, w3, w4, rfl⟩ : ∃ w0 w1 w2 w3 w4 : Value, args = #[w0, w1, w2, w3, w4] := by
  have hs : args.size = 5 := by simpa [Cond.value, given_1] using g0a
  obtain ⟨L⟩ := args
  match L, hs with
  | [w0, w1, w2, w3, w4], _ => exact ⟨w0, w1, w2, w3, w4, rfl⟩
 have hw := fun d (hd : d ∈ tables_1) => atoms_spec (ws := Jvm.Cond.code x code maxLocals ret :: tables_1) hat d (List.mem_cons_of_mem _ hd)
 have hfit : Fit s := fun {y c} hc i hi => by
  obtain ⟨ha, rfl⟩ := Array.getElem?_eq_some_iff.mp hc
  have q := List.all_eq_true.mp ((Array.all_eq_true_iff_forall_mem.mp hF) _ (Array.getElem_mem ha)) i (List.mem_range.mpr hi)
  simpa [Array.getElem?_eq_getElem hi] using q
 obtain ⟨hsets, hown0⟩ := atoms_of _ (rest_1_c_eq ▸ (show rest_1_c.before _ s = true from hrest))
 have hr0 := Cond.before_iff.mp hown0
 obtain ⟨i0, ei0⟩ := is_v g1a
 obtain rfl : w0 = (.int i0) := Option.some.inj ei0
 obtain ⟨i1, ei1⟩ := is_v g2a
 obtain rfl : w1 = (.int i1) := Option.some.inj ei1
 obtain ⟨i2, ei2⟩ := is_v g3a
 obtain rfl : w2 = (.int i2) := Option.some.inj ei2
 obtain ⟨i3, ei3⟩ := is_v g4a
 obtain rfl : w3 = (.int i3) := Option.some.inj ei3
 obtain ⟨i4, ei4⟩ := is_v g4b
 obtain rfl : w4 = (.int i4) := Option.some.inj ei4
 have n3 := not_v (Cond.before_iff.mp (hsets _ (List.mem_of_getElem? (i := 2) rfl)))
 obtain ⟨z0, ez0⟩ := is_v (Cond.before_iff.mp (hsets _ (List.mem_of_getElem? (i := 1) rfl)))
 have SZ0 : Sta s s.heap kS1 "COMPACT_STRINGS" "Z" (.int z0) := Sta.start ez0 (Or.inl (hsets _ (List.mem_of_getElem? (i := 0) rfl)))
 have hz0 : ¬ (z0 = (0 : Int32)) := gotF (Cond.eq_ints ez0 (Term.int_eval (0))) n3
 have H0 : CHv s EL1 s.vm s.heap := CHv.start (own_EW hw) (fun p hp => hcalls.1 p (own_ELin p hp)) (hsets _ (List.mem_of_getElem? (i := 2) rfl)) (own_wb hw) (own_wi hw)
 obtain ⟨q0, eq0⟩ := exa_v (Cond.before_iff.mp (hsets _ (List.mem_of_getElem? (i := 11) rfl)))
 have HO : (Sta s s.heap "java/util/Optional" "EMPTY" "Ljava/util/Optional;" (.ref q0) ∧ Exa s s.heap q0 "java/util/Optional" ∧ Fld s s.heap q0 "java/util/Optional" "value" "Ljava/lang/Object;" .null) := ⟨Sta.start eq0 (Or.inl (hsets _ (List.mem_of_getElem? (i := 10) rfl))), Exa.start eq0 (Cond.before_iff.mp (hsets _ (List.mem_of_getElem? (i := 11) rfl))), Fld.start ((fld_at eq0).symm.trans (null_v (Cond.before_iff.mp (hsets _ (List.mem_of_getElem? (i := 12) rfl)))))⟩
 obtain ⟨n, o, h1, h2, h3, _, L, rfl, ⟨rfl, N⟩, -, hq⟩ := rm0 l s _ hw tables_1 i0 i1 i2 i3 i4 z0 q0 s.heap s.heap.size (Nat.le_refl _) (Old.start s) SZ0 hz0 HO p e ha hc hk s m _ below hf ((Spec.applies_iff_loose hf).mp happ).1 ⟨rfl, State.Warmed39.refl s, rfl, H0, fun _ h => absurd h (List.not_mem_nil)⟩ trivial
 refine ⟨n, _, h1, h2, h3, hpost _ _ _ _ _ _ ⟨Cond.after_iff.mpr rfl, Cond.after_iff.mpr (eq_i res_at (Term.int_eval (1)) rfl), trivial⟩ ⟨hq.1, hq.2.1, hq.2.2.1, (hq.2.2.2.sift fun y hy => Or.inr (N y hy)).mono (by decide) (by decide)⟩⟩
theorem main_1_1 : Claimed_1_1 := comes_1 fun _ _ _ _ _ _ h hF => ⟨h.1, hF⟩
theorem main_1_2 : Claimed_1_2 := comes_1 fun _ _ _ _ _ _ h hF => ⟨h.2.1, hF⟩
end Jvm.Pilot.@@N@@
namespace Jvm.Pilot.@@N@@
open Jvm Jvm.ClassFile Sem Op Lib Jvm.Free Jvm.Stand Jvm.Pilot.@@N@@.Jvm.D
/-! MADE BY PROGRAM (witnessworld.py) out of the Statement's table words and the real class files: 29 classes; the members and pool entries that the words name. The judged class is class 1, her method 1. -/
namespace start1
open Jvm.ClassFile
def u (s : String) : CpInfo := .utf8 (stringToUtf16 s)
/-- a pool by its gaps: so many unusable entries, then the entry; so many at the end -/
def gap : Nat → List CpInfo → List CpInfo
  | 0, r => r
  | n + 1, r => .unusable :: gap n r
def poolList (es : List (Nat × CpInfo)) (last : Nat) : List CpInfo := es.foldr (fun e r => gap e.1 (e.2 :: r)) (gap last [])
def pool (es : List (Nat × CpInfo)) (last : Nat) : Array CpInfo := ⟨poolList es last⟩
def fileOf (pool : Array CpInfo) (this : Nat) (attrs : Array Attribute := #[]) (ms : Array MethodInfo := #[]) (fl : Nat := 33) (sup : Nat := 0) (ifs : Array Nat := #[]) (fds : Array FieldInfo := #[]) : ClassFile where
  minorVersion := 0
  majorVersion := 65
  constantPool := pool
  accessFlags := fl
  thisClass := this
  superClass := sup
  interfaces := ifs
  fields := fds
  methods := ms
  attributes := attrs
def plain (name : String) (sup : Option ClassId) : Class where
  name := name
  kind := .ordinary
  loader := none
  accessFlags := 33
  super := sup
  interfaces := #[]
  cf := none
  fields := #[]
  methods := #[]
  instanceTypes := #[]
  staticTypes := #[]
  resolved := #[]
  callSites := []
  init := .initialized
  statics := none
  mirror := none

def pool0 : Array CpInfo := pool [(5, u "<init>"), (0, u "()V"), (1, .class_ 10), (1, u "java/lang/Object")] 113

def k0c0 : Code := { maxStack := 0, maxLocals := 1, code := object_method_1_code, exceptionTable := #[], attributes := #[] }
def k0m0 : Method := { name := "<init>", desc := "()V", sig := { parameters := [], returnType := none }, accessFlags := 1, code := some k0c0 }
/-- java/lang/Object -/
def k0 : Class := { plain "java/lang/Object" none with
  accessFlags := 33
  interfaces := #[]
  cf := some (fileOf pool0 8 #[] #[{ accessFlags := 1, nameIndex := 5, descriptorIndex := 6, attributes := #[] }] 33 0 #[] #[])
  fields := #[]
  methods := #[k0m0]
  instanceTypes := #[]
  staticTypes := #[]
  resolved := Array.replicate 124 none
  statics := none }

def pool1 : Array CpInfo := pool [(2, .class_ 4), (1, u "java/lang/Object"), (0, u "<init>"), (0, u "()V"), (0, .class_ 8), (0, u "java/lang/String"), (0, .methodref 7 10), (0, .nameAndType 5 11), (0, u "([C)V"), (0, .methodref 7 13), (0, .nameAndType 14 15), (0, u "valueOf"), (0, u "(C)Ljava/lang/String;"), (0, .methodref 17 18), (0, .class_ 19), (0, .nameAndType 20 21), (0, u "java/util/Optional"), (0, u "of"), (0, u "(Ljava/lang/Object;)Ljava/util/Optional;"), (0, .methodref 17 23), (0, .nameAndType 24 25), (0, u "empty"), (0, u "()Ljava/util/Optional;"), (0, .class_ 27), (0, u "com/example/lease/lease/store/KeyRange"), (0, .methodref 26 29), (0, .nameAndType 5 30), (0, u "(Ljava/lang/String;Ljava/util/Optional;)V"), (0, .methodref 26 32), (0, .nameAndType 33 34), (0, u "condition"), (0, u "(Ljava/lang/String;)Ljava/lang/String;"), (0, .methodref 7 36), (0, .nameAndType 37 38), (0, u "equals"), (0, u "(Ljava/lang/Object;)Z"), (0, .class_ 40), (0, u "com/example/lease/lease/store/KeyRangeConditionPinLaw"), (2, u "law"), (0, u "(IIIII)Z")] 5

def k1m0 : Method := { name := "<init>", desc := "()V", sig := { parameters := [], returnType := none }, accessFlags := 2, code := none }
def k1c1 : Code := { maxStack := 6, maxLocals := 13, code := code, exceptionTable := #[], attributes := #[] }
def k1m1 : Method := { name := "law", desc := "(IIIII)Z", sig := { parameters := [.int, .int, .int, .int, .int], returnType := some .boolean }, accessFlags := 9, code := some k1c1 }
/-- com/example/lease/lease/store/KeyRangeConditionPinLaw -/
def k1 : Class := { plain "com/example/lease/lease/store/KeyRangeConditionPinLaw" (some 0) with
  accessFlags := 49
  interfaces := #[]
  cf := some (fileOf pool1 39 #[] #[{ accessFlags := 2, nameIndex := 5, descriptorIndex := 6, attributes := #[] }, { accessFlags := 9, nameIndex := 43, descriptorIndex := 44, attributes := #[] }] 49 2 #[] #[])
  fields := #[]
  methods := #[k1m0, k1m1]
  instanceTypes := #[]
  staticTypes := #[]
  resolved := Array.replicate 50 none
  statics := none }

def pool2 : Array CpInfo := pool [(1, .class_ 2), (0, u "java/io/Serializable"), (0, .class_ 4), (0, u "java/lang/Object")] 2

/-- java/io/Serializable -/
def k2 : Class := { plain "java/io/Serializable" (some 0) with
  accessFlags := 1537
  interfaces := #[]
  cf := some (fileOf pool2 1 #[] #[] 1537 3 #[] #[])
  fields := #[]
  methods := #[]
  instanceTypes := #[]
  staticTypes := #[]
  resolved := Array.replicate 7 none
  statics := none }

def pool3 : Array CpInfo := pool [(1, .class_ 2), (0, u "java/lang/Comparable"), (0, .class_ 4), (0, u "java/lang/Object")] 7

/-- java/lang/Comparable -/
def k3 : Class := { plain "java/lang/Comparable" (some 0) with
  accessFlags := 1537
  interfaces := #[]
  cf := some (fileOf pool3 1 #[] #[] 1537 3 #[] #[])
  fields := #[]
  methods := #[]
  instanceTypes := #[]
  staticTypes := #[]
  resolved := Array.replicate 12 none
  statics := none }

def pool4 : Array CpInfo := pool [(2, .class_ 4), (1, u "java/lang/CharSequence"), (42, .class_ 48), (0, u "java/lang/CharSequence$1CodePointIterator"), (10, .class_ 60), (0, u "java/lang/CharSequence$1CharIterator"), (5, .class_ 67), (0, u "java/lang/Object")] 63

/-- java/lang/CharSequence -/
def k4 : Class := { plain "java/lang/CharSequence" (some 0) with
  accessFlags := 1537
  interfaces := #[]
  cf := some (fileOf pool4 2 #[.nestMembers #[47, 59]] #[] 1537 66 #[] #[])
  fields := #[]
  methods := #[]
  instanceTypes := #[]
  staticTypes := #[]
  resolved := Array.replicate 131 none
  statics := none }

def pool5 : Array CpInfo := pool [(1, .class_ 2), (0, u "java/lang/constant/Constable"), (0, .class_ 4), (0, u "java/lang/Object")] 6

/-- java/lang/constant/Constable -/
def k5 : Class := { plain "java/lang/constant/Constable" (some 0) with
  accessFlags := 1537
  interfaces := #[]
  cf := some (fileOf pool5 1 #[] #[] 1537 3 #[] #[])
  fields := #[]
  methods := #[]
  instanceTypes := #[]
  staticTypes := #[]
  resolved := Array.replicate 11 none
  statics := none }

def pool6 : Array CpInfo := pool [(1, .class_ 2), (0, u "java/lang/constant/ConstantDesc"), (0, .class_ 4), (0, u "java/lang/Object")] 32

/-- java/lang/constant/ConstantDesc -/
def k6 : Class := { plain "java/lang/constant/ConstantDesc" (some 0) with
  accessFlags := 1537
  interfaces := #[]
  cf := some (fileOf pool6 1 #[] #[] 1537 3 #[] #[])
  fields := #[]
  methods := #[]
  instanceTypes := #[]
  staticTypes := #[]
  resolved := Array.replicate 37 none
  statics := none }

def pool7 : Array CpInfo := pool [(1, .methodref 2 3), (0, .class_ 4), (0, .nameAndType 5 6), (0, u "java/lang/Object"), (0, u "<init>"), (0, u "()V"), (2, .fieldref 10 11), (0, .class_ 12), (0, .nameAndType 13 14), (0, u "java/lang/String"), (0, u "value"), (0, u "[B"), (0, .fieldref 10 16), (0, .nameAndType 17 18), (0, u "coder"), (0, u "B"), (2, u "hash"), (0, u "I"), (2, u "hashIsZero"), (0, u "Z"), (0, .methodref 10 28), (0, .nameAndType 5 29), (0, u "([CIILjava/lang/Void;)V"), (8, .fieldref 10 39), (0, .nameAndType 40 26), (0, u "COMPACT_STRINGS"), (1, .class_ 44), (1, u "java/lang/StringUTF16"), (0, u "compress"), (1, .methodref 42 48), (0, .nameAndType 49 50), (0, u "coderFromArrayLen"), (0, u "([BI)B"), (2, u "toBytes"), (0, .methodref 55 56), (0, .class_ 57), (0, .nameAndType 58 59), (0, u "java/util/Arrays"), (0, u "copyOfRange"), (0, u "([BII)[B"), (47, .class_ 109), (1, u "java/lang/StringLatin1"), (32, u "()Z"), (34, .methodref 42 178), (0, .nameAndType 45 179), (0, u "([CII)[B"), (13, .class_ 195), (1, u "java/lang/System"), (13, .methodref 10 210), (0, .nameAndType 5 211), (0, u "([BB)V"), (0, .methodref 193 213), (0, .nameAndType 214 215), (0, u "arraycopy"), (0, u "(Ljava/lang/Object;ILjava/lang/Object;II)V"), (118, u "()I"), (0, .methodref 10 336), (0, .nameAndType 17 337), (0, u "()B"), (2, u "()[B"), (28, u "(C)Z"), (119, .methodref 10 490), (0, .nameAndType 5 491), (0, u "(Ljava/lang/AbstractStringBuilder;Ljava/lang/Void;)V"), (1, .nameAndType 494 142), (0, u "isLatin1"), (11, .nameAndType 507 334), (0, u "length"), (24, u "getBytes"), (8, .methodref 107 542), (0, .nameAndType 543 544), (0, u "equals"), (0, u "([B[B)Z"), (4, .methodref 550 506), (0, .class_ 551), (0, u "java/lang/AbstractStringBuilder"), (0, .methodref 550 553), (0, .nameAndType 554 340), (0, u "getValue"), (18, u "(Ljava/lang/Object;)Z"), (1, .class_ 576), (0, u "java/lang/CharSequence"), (22, u "CASE_INSENSITIVE_ORDER"), (0, u "Ljava/util/Comparator;"), (181, u "valueOf"), (0, u "(C)Ljava/lang/String;"), (37, u "([BIB)V"), (188, u "([C)V"), (4, .methodref 107 1016), (0, .nameAndType 1017 369), (0, u "canEncode"), (0, .methodref 107 1019), (0, .nameAndType 53 1020), (0, u "(C)[B"), (26, .methodref 550 493), (53, u "serialPersistentFields"), (0, u "[Ljava/io/ObjectStreamField;"), (0, .class_ 1104), (0, u "java/lang/String$CaseInsensitiveComparator"), (1, .class_ 1107), (0, u "java/io/Serializable"), (0, .class_ 1109), (0, u "java/lang/Comparable"), (0, .class_ 1111), (0, u "java/lang/constant/Constable"), (0, .class_ 1113), (0, u "java/lang/constant/ConstantDesc"), (2, u "serialVersionUID"), (0, u "J"), (3, u "REPL"), (0, u "C"), (2, u "LATIN1"), (1, u "UTF16"), (105, u "(Ljava/lang/StringBuilder;)V")] 217

def k7m0 : Method := { name := "<init>", desc := "()V", sig := { parameters := [], returnType := none }, accessFlags := 1, code := none }
def k7c1 : Code := { maxStack := 5, maxLocals := 2, code := jdk_42_method_3_code, exceptionTable := #[], attributes := #[] }
def k7m1 : Method := { name := "<init>", desc := "([C)V", sig := { parameters := [(.array .char)], returnType := none }, accessFlags := 1, code := some k7c1 }
def k7c2 : Code := { maxStack := 3, maxLocals := 2, code := jdk_42_method_53_code, exceptionTable := #[], attributes := #[] }
def k7m2 : Method := { name := "<init>", desc := "(Ljava/lang/StringBuilder;)V", sig := { parameters := [(.object "java/lang/StringBuilder")], returnType := none }, accessFlags := 1, code := some k7c2 }
def k7c3 : Code := { maxStack := 2, maxLocals := 1, code := jdk_42_method_54_code, exceptionTable := #[], attributes := #[] }
def k7m3 : Method := { name := "length", desc := "()I", sig := { parameters := [], returnType := some .int }, accessFlags := 1, code := some k7c3 }
def k7c4 : Code := { maxStack := 2, maxLocals := 3, code := jdk_42_method_66_code, exceptionTable := #[], attributes := #[] }
def k7m4 : Method := { name := "equals", desc := "(Ljava/lang/Object;)Z", sig := { parameters := [(.object "java/lang/Object")], returnType := some .boolean }, accessFlags := 1, code := some k7c4 }
def k7c5 : Code := { maxStack := 4, maxLocals := 1, code := jdk_42_method_139_code, exceptionTable := #[], attributes := #[] }
def k7m5 : Method := { name := "valueOf", desc := "(C)Ljava/lang/String;", sig := { parameters := [.char], returnType := some (.object "java/lang/String") }, accessFlags := 9, code := some k7c5 }
def k7c6 : Code := { maxStack := 5, maxLocals := 4, code := jdk_42_method_147_code, exceptionTable := #[], attributes := #[] }
def k7m6 : Method := { name := "getBytes", desc := "([BIB)V", sig := { parameters := [(.array .byte), .int, .byte], returnType := none }, accessFlags := 0, code := some k7c6 }
def k7c7 : Code := { maxStack := 4, maxLocals := 6, code := jdk_42_method_149_code, exceptionTable := #[], attributes := #[] }
def k7m7 : Method := { name := "<init>", desc := "([CIILjava/lang/Void;)V", sig := { parameters := [(.array .char), .int, .int, (.object "java/lang/Void")], returnType := none }, accessFlags := 2, code := some k7c7 }
def k7c8 : Code := { maxStack := 5, maxLocals := 5, code := jdk_42_method_150_code, exceptionTable := #[], attributes := #[] }
def k7m8 : Method := { name := "<init>", desc := "(Ljava/lang/AbstractStringBuilder;Ljava/lang/Void;)V", sig := { parameters := [(.object "java/lang/AbstractStringBuilder"), (.object "java/lang/Void")], returnType := none }, accessFlags := 0, code := some k7c8 }
def k7c9 : Code := { maxStack := 2, maxLocals := 3, code := jdk_42_method_151_code, exceptionTable := #[], attributes := #[] }
def k7m9 : Method := { name := "<init>", desc := "([BB)V", sig := { parameters := [(.array .byte), .byte], returnType := none }, accessFlags := 0, code := some k7c9 }
def k7c10 : Code := { maxStack := 1, maxLocals := 1, code := jdk_42_method_152_code, exceptionTable := #[], attributes := #[] }
def k7m10 : Method := { name := "coder", desc := "()B", sig := { parameters := [], returnType := some .byte }, accessFlags := 0, code := some k7c10 }
/-- java/lang/String -/
def k7 : Class := { plain "java/lang/String" (some 0) with
  accessFlags := 49
  interfaces := #[2, 3, 4, 5, 6]
  cf := some (fileOf pool7 10 #[.nestMembers #[1103]] #[{ accessFlags := 1, nameIndex := 5, descriptorIndex := 6, attributes := #[] }, { accessFlags := 1, nameIndex := 5, descriptorIndex := 1010, attributes := #[] }, { accessFlags := 1, nameIndex := 5, descriptorIndex := 1233, attributes := #[] }, { accessFlags := 1, nameIndex := 507, descriptorIndex := 334, attributes := #[] }, { accessFlags := 1, nameIndex := 543, descriptorIndex := 573, attributes := #[] }, { accessFlags := 9, nameIndex := 782, descriptorIndex := 783, attributes := #[] }, { accessFlags := 0, nameIndex := 532, descriptorIndex := 821, attributes := #[] }, { accessFlags := 2, nameIndex := 5, descriptorIndex := 29, attributes := #[] }, { accessFlags := 0, nameIndex := 5, descriptorIndex := 491, attributes := #[] }, { accessFlags := 0, nameIndex := 5, descriptorIndex := 211, attributes := #[] }, { accessFlags := 0, nameIndex := 17, descriptorIndex := 337, attributes := #[] }] 49 2 #[1106, 1108, 575, 1110, 1112] #[{ accessFlags := 18, nameIndex := 13, descriptorIndex := 14, attributes := #[] }, { accessFlags := 18, nameIndex := 17, descriptorIndex := 18, attributes := #[] }, { accessFlags := 2, nameIndex := 21, descriptorIndex := 22, attributes := #[] }, { accessFlags := 2, nameIndex := 25, descriptorIndex := 26, attributes := #[] }, { accessFlags := 26, nameIndex := 1116, descriptorIndex := 1117, attributes := #[] }, { accessFlags := 24, nameIndex := 40, descriptorIndex := 26, attributes := #[] }, { accessFlags := 26, nameIndex := 1101, descriptorIndex := 1102, attributes := #[] }, { accessFlags := 26, nameIndex := 1121, descriptorIndex := 1122, attributes := #[] }, { accessFlags := 25, nameIndex := 599, descriptorIndex := 600, attributes := #[] }, { accessFlags := 24, nameIndex := 1125, descriptorIndex := 18, attributes := #[] }, { accessFlags := 24, nameIndex := 1127, descriptorIndex := 18, attributes := #[] }])
  fields := #[{ name := "value", type := (.array .byte), accessFlags := 18, slot := 0, constantValue := 0 }, { name := "coder", type := .byte, accessFlags := 18, slot := 1, constantValue := 0 }, { name := "hash", type := .int, accessFlags := 2, slot := 2, constantValue := 0 }, { name := "hashIsZero", type := .boolean, accessFlags := 2, slot := 3, constantValue := 0 }, { name := "serialVersionUID", type := .long, accessFlags := 26, slot := 0, constantValue := 0 }, { name := "COMPACT_STRINGS", type := .boolean, accessFlags := 24, slot := 1, constantValue := 0 }, { name := "serialPersistentFields", type := (.array (.object "java/io/ObjectStreamField")), accessFlags := 26, slot := 2, constantValue := 0 }, { name := "REPL", type := .char, accessFlags := 26, slot := 3, constantValue := 0 }, { name := "CASE_INSENSITIVE_ORDER", type := (.object "java/util/Comparator"), accessFlags := 25, slot := 4, constantValue := 0 }, { name := "LATIN1", type := .byte, accessFlags := 24, slot := 5, constantValue := 0 }, { name := "UTF16", type := .byte, accessFlags := 24, slot := 6, constantValue := 0 }]
  methods := #[k7m0, k7m1, k7m2, k7m3, k7m4, k7m5, k7m6, k7m7, k7m8, k7m9, k7m10]
  instanceTypes := #[(.array .byte), .byte, .int, .boolean]
  staticTypes := #[.long, .boolean, (.array (.object "java/io/ObjectStreamField")), .char, (.object "java/util/Comparator"), .byte, .byte]
  resolved := Array.replicate 1451 none
  statics := some 0 }

def pool8 : Array CpInfo := pool [(6, .class_ 8), (1, u "java/lang/Object"), (0, u "<init>"), (0, u "()V"), (1, .class_ 14), (1, u "java/lang/StringUTF16"), (31, u "$assertionsDisabled"), (0, u "Z"), (13, u "HI_BYTE_SHIFT"), (0, u "I"), (2, u "LO_BYTE_SHIFT"), (49, .methodref 12 116), (0, .nameAndType 117 118), (0, u "compress"), (0, u "([CI[BII)I"), (3, u "([CII)[B"), (138, u "coderFromArrayLen"), (0, u "([BI)B"), (106, .class_ 371), (1, u "java/lang/StringUTF16$LinesSpliterator"), (58, u "MAX_LENGTH"), (196, .class_ 628), (0, u "java/lang/StringUTF16$CodePointsSpliterator"), (0, .class_ 630), (0, u "java/lang/StringUTF16$CharsSpliterator")] 4

def k8m0 : Method := { name := "<init>", desc := "()V", sig := { parameters := [], returnType := none }, accessFlags := 0, code := none }
def k8c1 : Code := { maxStack := 2, maxLocals := 2, code := jdk_52_method_15_code, exceptionTable := #[], attributes := #[] }
def k8m1 : Method := { name := "coderFromArrayLen", desc := "([BI)B", sig := { parameters := [(.array .byte), .int], returnType := some .byte }, accessFlags := 8, code := some k8c1 }
def k8c2 : Code := { maxStack := 5, maxLocals := 6, code := jdk_52_method_16_code, exceptionTable := #[], attributes := #[] }
def k8m2 : Method := { name := "compress", desc := "([CII)[B", sig := { parameters := [(.array .char), .int, .int], returnType := some (.array .byte) }, accessFlags := 9, code := some k8c2 }
def k8c3 : Code := { maxStack := 3, maxLocals := 7, code := jdk_52_method_21_code, exceptionTable := #[], attributes := #[] }
def k8m3 : Method := { name := "compress", desc := "([CI[BII)I", sig := { parameters := [(.array .char), .int, (.array .byte), .int, .int], returnType := some .int }, accessFlags := 9, code := some k8c3 }
/-- java/lang/StringUTF16 -/
def k8 : Class := { plain "java/lang/StringUTF16" (some 0) with
  accessFlags := 48
  interfaces := #[]
  cf := some (fileOf pool8 12 #[.nestMembers #[627, 629, 369]] #[{ accessFlags := 0, nameIndex := 9, descriptorIndex := 10, attributes := #[] }, { accessFlags := 8, nameIndex := 261, descriptorIndex := 262, attributes := #[] }, { accessFlags := 9, nameIndex := 117, descriptorIndex := 122, attributes := #[] }, { accessFlags := 9, nameIndex := 117, descriptorIndex := 118, attributes := #[] }] 48 6 #[] #[{ accessFlags := 26, nameIndex := 61, descriptorIndex := 62, attributes := #[] }, { accessFlags := 26, nameIndex := 65, descriptorIndex := 62, attributes := #[] }, { accessFlags := 24, nameIndex := 430, descriptorIndex := 62, attributes := #[] }, { accessFlags := 4120, nameIndex := 46, descriptorIndex := 47, attributes := #[] }])
  fields := #[{ name := "HI_BYTE_SHIFT", type := .int, accessFlags := 26, slot := 0, constantValue := 0 }, { name := "LO_BYTE_SHIFT", type := .int, accessFlags := 26, slot := 1, constantValue := 0 }, { name := "MAX_LENGTH", type := .int, accessFlags := 24, slot := 2, constantValue := 0 }, { name := "$assertionsDisabled", type := .boolean, accessFlags := 4120, slot := 3, constantValue := 0 }]
  methods := #[k8m0, k8m1, k8m2, k8m3]
  instanceTypes := #[]
  staticTypes := #[.int, .int, .int, .boolean]
  resolved := Array.replicate 635 none
  statics := none }

def pool9 : Array CpInfo := pool [(1, .fieldref 2 3), (0, .class_ 4), (0, .nameAndType 5 6), (0, u "java/util/Optional"), (0, u "EMPTY"), (0, u "Ljava/util/Optional;"), (0, .methodref 8 9), (0, .class_ 10), (0, .nameAndType 11 12), (0, u "java/lang/Object"), (0, u "<init>"), (0, u "()V"), (0, .fieldref 2 14), (0, .nameAndType 15 16), (0, u "value"), (0, u "Ljava/lang/Object;"), (0, .methodref 18 19), (0, .class_ 20), (0, .nameAndType 21 22), (0, u "java/util/Objects"), (0, u "requireNonNull"), (0, u "(Ljava/lang/Object;)Ljava/lang/Object;"), (0, .methodref 2 24), (0, .nameAndType 11 25), (0, u "(Ljava/lang/Object;)V"), (20, u "()Z"), (8, u "empty"), (0, u "()Ljava/util/Optional;"), (8, u "(Ljava/lang/Object;)Ljava/util/Optional;"), (2, u "isPresent"), (13, u "of")] 104

def k9c0 : Code := { maxStack := 1, maxLocals := 1, code := jdk_32_method_1_code, exceptionTable := #[], attributes := #[] }
def k9m0 : Method := { name := "empty", desc := "()Ljava/util/Optional;", sig := { parameters := [], returnType := some (.object "java/util/Optional") }, accessFlags := 9, code := some k9c0 }
def k9c1 : Code := { maxStack := 2, maxLocals := 2, code := jdk_32_method_2_code, exceptionTable := #[], attributes := #[] }
def k9m1 : Method := { name := "<init>", desc := "(Ljava/lang/Object;)V", sig := { parameters := [(.object "java/lang/Object")], returnType := none }, accessFlags := 2, code := some k9c1 }
def k9c2 : Code := { maxStack := 3, maxLocals := 1, code := jdk_32_method_3_code, exceptionTable := #[], attributes := #[] }
def k9m2 : Method := { name := "of", desc := "(Ljava/lang/Object;)Ljava/util/Optional;", sig := { parameters := [(.object "java/lang/Object")], returnType := some (.object "java/util/Optional") }, accessFlags := 9, code := some k9c2 }
def k9c3 : Code := { maxStack := 1, maxLocals := 1, code := jdk_32_method_6_code, exceptionTable := #[], attributes := #[] }
def k9m3 : Method := { name := "isPresent", desc := "()Z", sig := { parameters := [], returnType := some .boolean }, accessFlags := 1, code := some k9c3 }
/-- java/util/Optional -/
def k9 : Class := { plain "java/util/Optional" (some 0) with
  accessFlags := 49
  interfaces := #[]
  cf := some (fileOf pool9 2 #[] #[{ accessFlags := 9, nameIndex := 55, descriptorIndex := 56, attributes := #[] }, { accessFlags := 2, nameIndex := 11, descriptorIndex := 25, attributes := #[] }, { accessFlags := 9, nameIndex := 82, descriptorIndex := 65, attributes := #[] }, { accessFlags := 1, nameIndex := 68, descriptorIndex := 46, attributes := #[] }] 49 8 #[] #[{ accessFlags := 26, nameIndex := 5, descriptorIndex := 6, attributes := #[] }, { accessFlags := 18, nameIndex := 15, descriptorIndex := 16, attributes := #[] }])
  fields := #[{ name := "EMPTY", type := (.object "java/util/Optional"), accessFlags := 26, slot := 0, constantValue := 0 }, { name := "value", type := (.object "java/lang/Object"), accessFlags := 18, slot := 0, constantValue := 0 }]
  methods := #[k9m0, k9m1, k9m2, k9m3]
  instanceTypes := #[(.object "java/lang/Object")]
  staticTypes := #[(.object "java/util/Optional")]
  resolved := Array.replicate 187 none
  statics := some 1 }

def pool10 : Array CpInfo := pool [(1, .methodref 2 3), (0, .class_ 4), (0, .nameAndType 5 6), (0, u "java/lang/Object"), (0, u "<init>"), (0, u "()V"), (0, .class_ 8), (0, u "java/lang/Record")] 13

def k10c0 : Code := { maxStack := 1, maxLocals := 1, code := jdk_30_method_1_code, exceptionTable := #[], attributes := #[] }
def k10m0 : Method := { name := "<init>", desc := "()V", sig := { parameters := [], returnType := none }, accessFlags := 4, code := some k10c0 }
/-- java/lang/Record -/
def k10 : Class := { plain "java/lang/Record" (some 0) with
  accessFlags := 1057
  interfaces := #[]
  cf := some (fileOf pool10 7 #[] #[{ accessFlags := 4, nameIndex := 5, descriptorIndex := 6, attributes := #[] }] 1057 2 #[] #[])
  fields := #[]
  methods := #[k10m0]
  instanceTypes := #[]
  staticTypes := #[]
  resolved := Array.replicate 22 none
  statics := none }

def pool11 : Array CpInfo := pool [(1, .methodref 2 3), (0, .class_ 4), (0, .nameAndType 5 6), (0, u "java/lang/Record"), (0, u "<init>"), (0, u "()V"), (0, .fieldref 8 9), (0, .class_ 10), (0, .nameAndType 11 12), (0, u "com/example/lease/lease/store/KeyRange"), (0, u "from"), (0, u "Ljava/lang/String;"), (0, .fieldref 8 14), (0, .nameAndType 15 16), (0, u "below"), (0, u "Ljava/util/Optional;"), (5, u "()Ljava/lang/String;"), (6, u "(Ljava/lang/String;Ljava/util/Optional;)V"), (0, .methodref 31 32), (0, .class_ 33), (0, .nameAndType 34 35), (0, u "java/util/Optional"), (0, u "isPresent"), (0, u "()Z"), (0, .class_ 37), (0, u "java/lang/StringBuilder"), (0, .methodref 36 3), (0, .methodref 36 40), (0, .nameAndType 41 42), (0, u "append"), (0, u "(Ljava/lang/String;)Ljava/lang/StringBuilder;"), (0, .string 44), (0, u " >= ? AND "), (0, .string 46), (0, u " < ?"), (0, .methodref 36 48), (0, .nameAndType 49 22), (0, u "toString"), (0, .string 51), (0, u " >= ?"), (31, u "condition"), (0, u "(Ljava/lang/String;)Ljava/lang/String;")] 30

def k11c0 : Code := { maxStack := 2, maxLocals := 3, code := prog_34_method_1_code, exceptionTable := #[], attributes := #[] }
def k11m0 : Method := { name := "<init>", desc := "(Ljava/lang/String;Ljava/util/Optional;)V", sig := { parameters := [(.object "java/lang/String"), (.object "java/util/Optional")], returnType := none }, accessFlags := 0, code := some k11c0 }
def k11c1 : Code := { maxStack := 2, maxLocals := 2, code := prog_34_method_3_code, exceptionTable := #[], attributes := #[] }
def k11m1 : Method := { name := "condition", desc := "(Ljava/lang/String;)Ljava/lang/String;", sig := { parameters := [(.object "java/lang/String")], returnType := some (.object "java/lang/String") }, accessFlags := 0, code := some k11c1 }
/-- com/example/lease/lease/store/KeyRange -/
def k11 : Class := { plain "com/example/lease/lease/store/KeyRange" (some 10) with
  accessFlags := 48
  interfaces := #[]
  cf := some (fileOf pool11 8 #[] #[{ accessFlags := 0, nameIndex := 5, descriptorIndex := 29, attributes := #[] }, { accessFlags := 0, nameIndex := 83, descriptorIndex := 84, attributes := #[] }] 48 2 #[] #[{ accessFlags := 18, nameIndex := 11, descriptorIndex := 12, attributes := #[] }, { accessFlags := 18, nameIndex := 15, descriptorIndex := 16, attributes := #[] }])
  fields := #[{ name := "from", type := (.object "java/lang/String"), accessFlags := 18, slot := 0, constantValue := 0 }, { name := "below", type := (.object "java/util/Optional"), accessFlags := 18, slot := 1, constantValue := 0 }]
  methods := #[k11m0, k11m1]
  instanceTypes := #[(.object "java/lang/String"), (.object "java/util/Optional")]
  staticTypes := #[]
  resolved := Array.replicate 115 none
  statics := none }

def pool12 : Array CpInfo := pool [(4, .class_ 6), (1, u "java/lang/Object"), (0, u "<init>"), (0, u "()V"), (5, .class_ 16), (1, u "java/lang/StringLatin1"), (73, u "canEncode"), (14, u "(C)Z"), (15, u "$assertionsDisabled"), (0, u "Z"), (98, .class_ 223), (1, u "java/lang/StringLatin1$LinesSpliterator"), (57, u "equals"), (0, u "([B[B)Z"), (97, u "toBytes"), (1, u "(C)[B"), (7, .class_ 391), (0, u "java/lang/StringLatin1$CharsSpliterator")] 3

def k12m0 : Method := { name := "<init>", desc := "()V", sig := { parameters := [], returnType := none }, accessFlags := 0, code := none }
def k12c1 : Code := { maxStack := 2, maxLocals := 1, code := jdk_43_method_3_code, exceptionTable := #[], attributes := #[] }
def k12m1 : Method := { name := "canEncode", desc := "(C)Z", sig := { parameters := [.char], returnType := some .boolean }, accessFlags := 9, code := some k12c1 }
def k12c2 : Code := { maxStack := 3, maxLocals := 3, code := jdk_43_method_13_code, exceptionTable := #[], attributes := #[] }
def k12m2 : Method := { name := "equals", desc := "([B[B)Z", sig := { parameters := [(.array .byte), (.array .byte)], returnType := some .boolean }, accessFlags := 9, code := some k12c2 }
def k12c3 : Code := { maxStack := 4, maxLocals := 1, code := jdk_43_method_46_code, exceptionTable := #[], attributes := #[] }
def k12m3 : Method := { name := "toBytes", desc := "(C)[B", sig := { parameters := [.char], returnType := some (.array .byte) }, accessFlags := 9, code := some k12c3 }
/-- java/lang/StringLatin1 -/
def k12 : Class := { plain "java/lang/StringLatin1" (some 0) with
  accessFlags := 48
  interfaces := #[]
  cf := some (fileOf pool12 14 #[.nestMembers #[390, 221]] #[{ accessFlags := 0, nameIndex := 7, descriptorIndex := 8, attributes := #[] }, { accessFlags := 9, nameIndex := 90, descriptorIndex := 105, attributes := #[] }, { accessFlags := 9, nameIndex := 281, descriptorIndex := 282, attributes := #[] }, { accessFlags := 9, nameIndex := 380, descriptorIndex := 382, attributes := #[] }] 48 4 #[] #[{ accessFlags := 4120, nameIndex := 121, descriptorIndex := 122, attributes := #[] }])
  fields := #[{ name := "$assertionsDisabled", type := .boolean, accessFlags := 4120, slot := 0, constantValue := 0 }]
  methods := #[k12m0, k12m1, k12m2, k12m3]
  instanceTypes := #[]
  staticTypes := #[.boolean]
  resolved := Array.replicate 395 none
  statics := none }

def pool13 : Array CpInfo := pool [(1, .class_ 2), (0, u "java/lang/Appendable"), (0, .class_ 4), (0, u "java/lang/Object")] 9

/-- java/lang/Appendable -/
def k13 : Class := { plain "java/lang/Appendable" (some 0) with
  accessFlags := 1537
  interfaces := #[]
  cf := some (fileOf pool13 1 #[] #[] 1537 3 #[] #[])
  fields := #[]
  methods := #[]
  instanceTypes := #[]
  staticTypes := #[]
  resolved := Array.replicate 14 none
  statics := none }

def pool14 : Array CpInfo := pool [(1, .class_ 2), (0, u "java/lang/String"), (0, .methodref 4 5), (0, .class_ 6), (0, .nameAndType 7 8), (0, u "java/lang/Object"), (0, u "<init>"), (0, u "()V"), (1, .class_ 12), (1, u "java/lang/AbstractStringBuilder"), (0, u "EMPTYVALUE"), (0, u "[B"), (0, .fieldref 10 16), (0, .nameAndType 17 14), (0, u "value"), (0, .fieldref 1 19), (0, .nameAndType 20 21), (0, u "COMPACT_STRINGS"), (0, u "Z"), (0, .fieldref 10 23), (0, .nameAndType 24 25), (0, u "coder"), (0, u "B"), (6, .methodref 1 33), (0, .nameAndType 34 35), (0, u "length"), (0, u "()I"), (3, .integer 2147483647), (0, .methodref 1 41), (0, .nameAndType 24 42), (0, u "()B"), (2, u "append"), (0, u "(Ljava/lang/String;)Ljava/lang/AbstractStringBuilder;"), (1, .class_ 49), (0, u "java/lang/CharSequence"), (19, u "(Ljava/lang/String;)V"), (5, u "maybeLatin1"), (3, .fieldref 10 80), (0, .nameAndType 81 82), (0, u "count"), (0, u "I"), (2, u "isLatin1"), (0, u "()Z"), (13, .methodref 10 101), (0, .nameAndType 102 103), (0, u "ensureCapacityInternal"), (0, u "(I)V"), (0, .methodref 10 105), (0, .nameAndType 106 107), (0, u "newCapacity"), (0, u "(I)I"), (0, .methodref 109 110), (0, .class_ 111), (0, .nameAndType 112 113), (0, u "java/util/Arrays"), (0, u "copyOf"), (0, u "([BI)[B"), (0, .methodref 115 116), (0, .class_ 117), (0, .nameAndType 118 119), (0, u "jdk/internal/util/ArraysSupport"), (0, u "newLength"), (0, u "(III)I"), (88, .methodref 10 209), (0, .nameAndType 210 211), (0, u "putStringAt"), (0, u "(ILjava/lang/String;)V"), (5, u "inflateIfNeededFor"), (2, .nameAndType 221 222), (0, u "getBytes"), (0, u "([BIB)V"), (174, .methodref 10 398), (0, .nameAndType 217 69), (0, .methodref 1 220), (3, u "()[B"), (40, .class_ 445), (0, u "java/lang/Appendable"), (106, u "getValue")] 56

def k14m0 : Method := { name := "<init>", desc := "()V", sig := { parameters := [], returnType := none }, accessFlags := 0, code := none }
def k14c1 : Code := { maxStack := 2, maxLocals := 2, code := jdk_68_method_2_code, exceptionTable := #[], attributes := #[] }
def k14m1 : Method := { name := "<init>", desc := "(I)V", sig := { parameters := [.int], returnType := none }, accessFlags := 0, code := some k14c1 }
def k14c2 : Code := { maxStack := 1, maxLocals := 1, code := jdk_68_method_6_code, exceptionTable := #[], attributes := #[] }
def k14m2 : Method := { name := "length", desc := "()I", sig := { parameters := [], returnType := some .int }, accessFlags := 1, code := some k14c2 }
def k14c3 : Code := { maxStack := 4, maxLocals := 3, code := jdk_68_method_9_code, exceptionTable := #[], attributes := #[] }
def k14m3 : Method := { name := "ensureCapacityInternal", desc := "(I)V", sig := { parameters := [.int], returnType := none }, accessFlags := 2, code := some k14c3 }
def k14c4 : Code := { maxStack := 5, maxLocals := 6, code := jdk_68_method_10_code, exceptionTable := #[], attributes := #[] }
def k14m4 : Method := { name := "newCapacity", desc := "(I)I", sig := { parameters := [.int], returnType := some .int }, accessFlags := 2, code := some k14c4 }
def k14c5 : Code := { maxStack := 3, maxLocals := 3, code := jdk_68_method_22_code, exceptionTable := #[], attributes := #[] }
def k14m5 : Method := { name := "append", desc := "(Ljava/lang/String;)Ljava/lang/AbstractStringBuilder;", sig := { parameters := [(.object "java/lang/String")], returnType := some (.object "java/lang/AbstractStringBuilder") }, accessFlags := 1, code := some k14c5 }
def k14c6 : Code := { maxStack := 1, maxLocals := 1, code := jdk_68_method_64_code, exceptionTable := #[], attributes := #[] }
def k14m6 : Method := { name := "getValue", desc := "()[B", sig := { parameters := [], returnType := some (.array .byte) }, accessFlags := 16, code := some k14c6 }
def k14c7 : Code := { maxStack := 1, maxLocals := 1, code := jdk_68_method_68_code, exceptionTable := #[], attributes := #[] }
def k14m7 : Method := { name := "isLatin1", desc := "()Z", sig := { parameters := [], returnType := some .boolean }, accessFlags := 16, code := some k14c7 }
def k14c8 : Code := { maxStack := 2, maxLocals := 2, code := jdk_68_method_71_code, exceptionTable := #[], attributes := #[] }
def k14m8 : Method := { name := "inflateIfNeededFor", desc := "(Ljava/lang/String;)V", sig := { parameters := [(.object "java/lang/String")], returnType := none }, accessFlags := 2, code := some k14c8 }
def k14c9 : Code := { maxStack := 4, maxLocals := 3, code := jdk_68_method_73_code, exceptionTable := #[], attributes := #[] }
def k14m9 : Method := { name := "putStringAt", desc := "(ILjava/lang/String;)V", sig := { parameters := [.int, (.object "java/lang/String")], returnType := none }, accessFlags := 2, code := some k14c9 }
/-- java/lang/AbstractStringBuilder -/
def k14 : Class := { plain "java/lang/AbstractStringBuilder" (some 0) with
  accessFlags := 1056
  interfaces := #[13, 4]
  cf := some (fileOf pool14 10 #[] #[{ accessFlags := 0, nameIndex := 7, descriptorIndex := 8, attributes := #[] }, { accessFlags := 0, nameIndex := 7, descriptorIndex := 103, attributes := #[] }, { accessFlags := 1, nameIndex := 34, descriptorIndex := 35, attributes := #[] }, { accessFlags := 2, nameIndex := 102, descriptorIndex := 103, attributes := #[] }, { accessFlags := 2, nameIndex := 106, descriptorIndex := 107, attributes := #[] }, { accessFlags := 1, nameIndex := 45, descriptorIndex := 46, attributes := #[] }, { accessFlags := 16, nameIndex := 552, descriptorIndex := 403, attributes := #[] }, { accessFlags := 16, nameIndex := 85, descriptorIndex := 86, attributes := #[] }, { accessFlags := 2, nameIndex := 217, descriptorIndex := 69, attributes := #[] }, { accessFlags := 2, nameIndex := 210, descriptorIndex := 211, attributes := #[] }] 1056 4 #[444, 48] #[{ accessFlags := 0, nameIndex := 17, descriptorIndex := 14, attributes := #[] }, { accessFlags := 0, nameIndex := 24, descriptorIndex := 25, attributes := #[] }, { accessFlags := 0, nameIndex := 75, descriptorIndex := 21, attributes := #[] }, { accessFlags := 0, nameIndex := 81, descriptorIndex := 82, attributes := #[] }, { accessFlags := 26, nameIndex := 13, descriptorIndex := 14, attributes := #[] }])
  fields := #[{ name := "value", type := (.array .byte), accessFlags := 0, slot := 0, constantValue := 0 }, { name := "coder", type := .byte, accessFlags := 0, slot := 1, constantValue := 0 }, { name := "maybeLatin1", type := .boolean, accessFlags := 0, slot := 2, constantValue := 0 }, { name := "count", type := .int, accessFlags := 0, slot := 3, constantValue := 0 }, { name := "EMPTYVALUE", type := (.array .byte), accessFlags := 26, slot := 0, constantValue := 0 }]
  methods := #[k14m0, k14m1, k14m2, k14m3, k14m4, k14m5, k14m6, k14m7, k14m8, k14m9]
  instanceTypes := #[(.array .byte), .byte, .boolean, .int]
  staticTypes := #[(.array .byte)]
  resolved := Array.replicate 609 none
  statics := none }

def pool15 : Array CpInfo := pool [(1, .methodref 2 3), (0, .class_ 4), (0, .nameAndType 5 6), (0, u "java/lang/AbstractStringBuilder"), (0, u "<init>"), (0, u "(I)V"), (11, .class_ 20), (1, u "java/lang/String"), (3, .class_ 26), (1, u "java/lang/StringBuilder"), (0, u "append"), (0, u "(Ljava/lang/String;)Ljava/lang/StringBuilder;"), (0, .methodref 2 30), (0, .nameAndType 27 31), (0, u "(Ljava/lang/String;)Ljava/lang/AbstractStringBuilder;"), (105, .methodref 18 138), (0, .nameAndType 5 139), (0, u "(Ljava/lang/StringBuilder;)V"), (5, u "()V"), (10, u "()I"), (186, .methodref 2 344), (0, .nameAndType 345 156), (0, u "length"), (3, .class_ 350), (0, u "java/lang/Appendable"), (0, .class_ 352), (0, u "java/io/Serializable"), (0, .class_ 354), (0, u "java/lang/Comparable"), (0, .class_ 356), (0, u "java/lang/CharSequence"), (0, u "serialVersionUID"), (0, u "J"), (40, u "toString"), (0, u "()Ljava/lang/String;")] 21

def k15c0 : Code := { maxStack := 2, maxLocals := 1, code := jdk_67_method_1_code, exceptionTable := #[], attributes := #[] }
def k15m0 : Method := { name := "<init>", desc := "()V", sig := { parameters := [], returnType := none }, accessFlags := 1, code := some k15c0 }
def k15c1 : Code := { maxStack := 2, maxLocals := 2, code := jdk_67_method_7_code, exceptionTable := #[], attributes := #[] }
def k15m1 : Method := { name := "append", desc := "(Ljava/lang/String;)Ljava/lang/StringBuilder;", sig := { parameters := [(.object "java/lang/String")], returnType := some (.object "java/lang/StringBuilder") }, accessFlags := 1, code := some k15c1 }
def k15c2 : Code := { maxStack := 3, maxLocals := 1, code := jdk_67_method_42_code, exceptionTable := #[], attributes := #[] }
def k15m2 : Method := { name := "toString", desc := "()Ljava/lang/String;", sig := { parameters := [], returnType := some (.object "java/lang/String") }, accessFlags := 1, code := some k15c2 }
def k15c3 : Code := { maxStack := 1, maxLocals := 1, code := jdk_67_method_93_code, exceptionTable := #[], attributes := #[] }
def k15m3 : Method := { name := "length", desc := "()I", sig := { parameters := [], returnType := some .int }, accessFlags := 4161, code := some k15c3 }
/-- java/lang/StringBuilder -/
def k15 : Class := { plain "java/lang/StringBuilder" (some 14) with
  accessFlags := 49
  interfaces := #[13, 2, 3, 4]
  cf := some (fileOf pool15 24 #[] #[{ accessFlags := 1, nameIndex := 5, descriptorIndex := 145, attributes := #[] }, { accessFlags := 1, nameIndex := 27, descriptorIndex := 28, attributes := #[] }, { accessFlags := 1, nameIndex := 399, descriptorIndex := 400, attributes := #[] }, { accessFlags := 4161, nameIndex := 345, descriptorIndex := 156, attributes := #[] }] 49 2 #[349, 351, 353, 355] #[{ accessFlags := 24, nameIndex := 357, descriptorIndex := 358, attributes := #[] }])
  fields := #[{ name := "serialVersionUID", type := .long, accessFlags := 24, slot := 0, constantValue := 0 }]
  methods := #[k15m0, k15m1, k15m2, k15m3]
  instanceTypes := #[(.array .byte), .byte, .boolean, .int]
  staticTypes := #[.long]
  resolved := Array.replicate 422 none
  statics := none }

def pool16 : Array CpInfo := pool [(2, .class_ 4), (1, u "java/lang/Object"), (0, u "<init>"), (0, u "()V"), (1, .class_ 10), (1, u "java/lang/System"), (0, u "allowSecurityManager"), (0, u "I"), (16, u "cons"), (0, u "Ljava/io/Console;"), (77, .class_ 110), (1, u "java/lang/System$CallersHolder"), (43, u "initialErrStream"), (0, u "Ljava/io/PrintStream;"), (19, u "security"), (0, u "Ljava/lang/SecurityManager;"), (31, .class_ 209), (0, u "java/lang/System$1"), (7, u "props"), (0, u "Ljava/util/Properties;"), (2, u "lineSeparator"), (0, u "Ljava/lang/String;"), (96, .class_ 321), (1, u "java/lang/System$LoggerFinder"), (5, .class_ 328), (0, u "java/lang/System$Logger"), (67, u "err"), (2, u "out"), (91, u "notSupportedJnuEncoding"), (15, u "in"), (17, u "initialIn"), (0, u "Ljava/io/InputStream;"), (35, u "bootLayer"), (0, u "Ljava/lang/ModuleLayer;"), (99, .class_ 664), (0, u "java/lang/System$2"), (9, u "NEVER"), (2, u "MAYBE"), (49, u "arraycopy"), (0, u "(Ljava/lang/Object;ILjava/lang/Object;II)V"), (72, .class_ 802), (0, u "java/lang/System$Logger$Level")] 31

def k16m0 : Method := { name := "<init>", desc := "()V", sig := { parameters := [], returnType := none }, accessFlags := 2, code := none }
def k16m1 : Method := { name := "arraycopy", desc := "(Ljava/lang/Object;ILjava/lang/Object;II)V", sig := { parameters := [(.object "java/lang/Object"), .int, (.object "java/lang/Object"), .int, .int], returnType := none }, accessFlags := 265, code := none }
/-- java/lang/System -/
def k16 : Class := { plain "java/lang/System" (some 0) with
  accessFlags := 49
  interfaces := #[]
  cf := some (fileOf pool16 8 #[.nestMembers #[319, 327, 801, 108, 663, 208]] #[{ accessFlags := 2, nameIndex := 5, descriptorIndex := 6, attributes := #[] }, { accessFlags := 265, nameIndex := 727, descriptorIndex := 728, attributes := #[] }] 49 2 #[] #[{ accessFlags := 25, nameIndex := 507, descriptorIndex := 526, attributes := #[] }, { accessFlags := 25, nameIndex := 399, descriptorIndex := 155, attributes := #[] }, { accessFlags := 25, nameIndex := 396, descriptorIndex := 155, attributes := #[] }, { accessFlags := 10, nameIndex := 525, descriptorIndex := 526, attributes := #[] }, { accessFlags := 26, nameIndex := 674, descriptorIndex := 12, attributes := #[] }, { accessFlags := 26, nameIndex := 677, descriptorIndex := 12, attributes := #[] }, { accessFlags := 10, nameIndex := 11, descriptorIndex := 12, attributes := #[] }, { accessFlags := 74, nameIndex := 175, descriptorIndex := 176, attributes := #[] }, { accessFlags := 10, nameIndex := 491, descriptorIndex := 222, attributes := #[] }, { accessFlags := 74, nameIndex := 29, descriptorIndex := 30, attributes := #[] }, { accessFlags := 74, nameIndex := 154, descriptorIndex := 155, attributes := #[] }, { accessFlags := 10, nameIndex := 217, descriptorIndex := 218, attributes := #[] }, { accessFlags := 10, nameIndex := 221, descriptorIndex := 222, attributes := #[] }, { accessFlags := 8, nameIndex := 562, descriptorIndex := 563, attributes := #[] }])
  fields := #[{ name := "in", type := (.object "java/io/InputStream"), accessFlags := 25, slot := 0, constantValue := 0 }, { name := "out", type := (.object "java/io/PrintStream"), accessFlags := 25, slot := 1, constantValue := 0 }, { name := "err", type := (.object "java/io/PrintStream"), accessFlags := 25, slot := 2, constantValue := 0 }, { name := "initialIn", type := (.object "java/io/InputStream"), accessFlags := 10, slot := 3, constantValue := 0 }, { name := "NEVER", type := .int, accessFlags := 26, slot := 4, constantValue := 0 }, { name := "MAYBE", type := .int, accessFlags := 26, slot := 5, constantValue := 0 }, { name := "allowSecurityManager", type := .int, accessFlags := 10, slot := 6, constantValue := 0 }, { name := "security", type := (.object "java/lang/SecurityManager"), accessFlags := 74, slot := 7, constantValue := 0 }, { name := "notSupportedJnuEncoding", type := (.object "java/lang/String"), accessFlags := 10, slot := 8, constantValue := 0 }, { name := "cons", type := (.object "java/io/Console"), accessFlags := 74, slot := 9, constantValue := 0 }, { name := "initialErrStream", type := (.object "java/io/PrintStream"), accessFlags := 74, slot := 10, constantValue := 0 }, { name := "props", type := (.object "java/util/Properties"), accessFlags := 10, slot := 11, constantValue := 0 }, { name := "lineSeparator", type := (.object "java/lang/String"), accessFlags := 10, slot := 12, constantValue := 0 }, { name := "bootLayer", type := (.object "java/lang/ModuleLayer"), accessFlags := 8, slot := 13, constantValue := 0 }]
  methods := #[k16m0, k16m1]
  instanceTypes := #[]
  staticTypes := #[(.object "java/io/InputStream"), (.object "java/io/PrintStream"), (.object "java/io/PrintStream"), (.object "java/io/InputStream"), .int, .int, .int, (.object "java/lang/SecurityManager"), (.object "java/lang/String"), (.object "java/io/Console"), (.object "java/io/PrintStream"), (.object "java/util/Properties"), (.object "java/lang/String"), (.object "java/lang/ModuleLayer")]
  resolved := Array.replicate 834 none
  statics := none }

def pool17 : Array CpInfo := pool [(2, .class_ 4), (1, u "java/lang/Object"), (0, u "<init>"), (0, u "()V"), (7, .class_ 16), (1, u "java/util/Arrays"), (57, .class_ 76), (1, u "java/util/Arrays$NaturalOrder"), (36, .class_ 115), (1, u "java/util/Arrays$LegacyMergeSort"), (1, u "Z"), (21, u "copyOfRange"), (10, .methodref 151 152), (0, .class_ 153), (0, .nameAndType 154 155), (0, u "java/lang/System"), (0, u "arraycopy"), (0, u "(Ljava/lang/Object;ILjava/lang/Object;II)V"), (146, u "copyOf"), (1, .methodref 305 306), (0, .class_ 307), (0, .nameAndType 308 309), (0, u "java/lang/Math"), (0, u "min"), (0, u "(II)I"), (29, .methodref 14 340), (0, .nameAndType 341 342), (0, u "copyOfRangeByte"), (0, u "([BII)[B"), (0, .methodref 14 344), (0, .nameAndType 345 346), (0, u "checkLength"), (0, u "(II)V"), (28, .class_ 376), (0, u "java/util/Arrays$ArrayList"), (68, u "$assertionsDisabled"), (269, u "MIN_ARRAY_SORT_GRAN"), (0, u "I"), (2, u "INSERTIONSORT_THRESHOLD"), (149, u "([BI)[B"), (105, .class_ 976), (0, u "java/util/Arrays$ArrayItr")] 52

def k17m0 : Method := { name := "<init>", desc := "()V", sig := { parameters := [], returnType := none }, accessFlags := 2, code := none }
def k17c1 : Code := { maxStack := 6, maxLocals := 3, code := jdk_65_method_121_code, exceptionTable := #[], attributes := #[] }
def k17m1 : Method := { name := "copyOf", desc := "([BI)[B", sig := { parameters := [(.array .byte), .int], returnType := some (.array .byte) }, accessFlags := 9, code := some k17c1 }
def k17c2 : Code := { maxStack := 4, maxLocals := 2, code := jdk_65_method_131_code, exceptionTable := #[], attributes := #[] }
def k17m2 : Method := { name := "checkLength", desc := "(II)V", sig := { parameters := [.int, .int], returnType := none }, accessFlags := 10, code := some k17c2 }
def k17c3 : Code := { maxStack := 3, maxLocals := 3, code := jdk_65_method_132_code, exceptionTable := #[], attributes := #[] }
def k17m3 : Method := { name := "copyOfRange", desc := "([BII)[B", sig := { parameters := [(.array .byte), .int, .int], returnType := some (.array .byte) }, accessFlags := 9, code := some k17c3 }
def k17c4 : Code := { maxStack := 6, maxLocals := 5, code := jdk_65_method_133_code, exceptionTable := #[], attributes := #[] }
def k17m4 : Method := { name := "copyOfRangeByte", desc := "([BII)[B", sig := { parameters := [(.array .byte), .int, .int], returnType := some (.array .byte) }, accessFlags := 10, code := some k17c4 }
/-- java/util/Arrays -/
def k17 : Class := { plain "java/util/Arrays" (some 0) with
  accessFlags := 49
  interfaces := #[]
  cf := some (fileOf pool17 14 #[.nestMembers #[975, 375, 113, 74]] #[{ accessFlags := 2, nameIndex := 5, descriptorIndex := 6, attributes := #[] }, { accessFlags := 9, nameIndex := 302, descriptorIndex := 869, attributes := #[] }, { accessFlags := 10, nameIndex := 345, descriptorIndex := 346, attributes := #[] }, { accessFlags := 9, nameIndex := 139, descriptorIndex := 342, attributes := #[] }, { accessFlags := 10, nameIndex := 341, descriptorIndex := 342, attributes := #[] }] 49 2 #[] #[{ accessFlags := 26, nameIndex := 715, descriptorIndex := 716, attributes := #[] }, { accessFlags := 26, nameIndex := 719, descriptorIndex := 716, attributes := #[] }, { accessFlags := 4120, nameIndex := 445, descriptorIndex := 117, attributes := #[] }])
  fields := #[{ name := "MIN_ARRAY_SORT_GRAN", type := .int, accessFlags := 26, slot := 0, constantValue := 0 }, { name := "INSERTIONSORT_THRESHOLD", type := .int, accessFlags := 26, slot := 1, constantValue := 0 }, { name := "$assertionsDisabled", type := .boolean, accessFlags := 4120, slot := 2, constantValue := 0 }]
  methods := #[k17m0, k17m1, k17m2, k17m3, k17m4]
  instanceTypes := #[]
  staticTypes := #[.int, .int, .boolean]
  resolved := Array.replicate 1029 none
  statics := none }

def pool18 : Array CpInfo := pool [(1, .class_ 2), (0, u "java/lang/Math"), (1, .class_ 6), (1, u "java/lang/Object"), (0, u "<init>"), (0, u "()V"), (89, .class_ 100), (1, u "java/lang/Math$RandomNumberGeneratorHolder"), (71, u "negativeZeroFloatBits"), (0, u "J"), (2, u "negativeZeroDoubleBits"), (21, u "max"), (2, u "min"), (43, u "$assertionsDisabled"), (0, u "Z"), (88, u "(II)I"), (2, u "twoToTheDoubleScaleDown"), (0, u "D"), (4, u "twoToTheDoubleScaleUp"), (9, u "E"), (3, u "PI"), (2, u "TAU"), (2, u "DEGREES_TO_RADIANS"), (0, u "RADIANS_TO_DEGREES")] 94

def k18m0 : Method := { name := "<init>", desc := "()V", sig := { parameters := [], returnType := none }, accessFlags := 2, code := none }
def k18c1 : Code := { maxStack := 2, maxLocals := 2, code := jdk_29_method_65_code, exceptionTable := #[], attributes := #[] }
def k18m1 : Method := { name := "max", desc := "(II)I", sig := { parameters := [.int, .int], returnType := some .int }, accessFlags := 9, code := some k18c1 }
def k18c2 : Code := { maxStack := 2, maxLocals := 2, code := jdk_29_method_69_code, exceptionTable := #[], attributes := #[] }
def k18m2 : Method := { name := "min", desc := "(II)I", sig := { parameters := [.int, .int], returnType := some .int }, accessFlags := 9, code := some k18c2 }
/-- java/lang/Math -/
def k18 : Class := { plain "java/lang/Math" (some 0) with
  accessFlags := 49
  interfaces := #[]
  cf := some (fileOf pool18 1 #[.nestMembers #[98]] #[{ accessFlags := 2, nameIndex := 7, descriptorIndex := 8, attributes := #[] }, { accessFlags := 9, nameIndex := 198, descriptorIndex := 335, attributes := #[] }, { accessFlags := 9, nameIndex := 201, descriptorIndex := 335, attributes := #[] }] 49 4 #[] #[{ accessFlags := 25, nameIndex := 354, descriptorIndex := 339, attributes := #[] }, { accessFlags := 25, nameIndex := 358, descriptorIndex := 339, attributes := #[] }, { accessFlags := 25, nameIndex := 361, descriptorIndex := 339, attributes := #[] }, { accessFlags := 26, nameIndex := 364, descriptorIndex := 339, attributes := #[] }, { accessFlags := 26, nameIndex := 365, descriptorIndex := 339, attributes := #[] }, { accessFlags := 26, nameIndex := 172, descriptorIndex := 173, attributes := #[] }, { accessFlags := 26, nameIndex := 176, descriptorIndex := 173, attributes := #[] }, { accessFlags := 8, nameIndex := 344, descriptorIndex := 339, attributes := #[] }, { accessFlags := 8, nameIndex := 338, descriptorIndex := 339, attributes := #[] }, { accessFlags := 4120, nameIndex := 245, descriptorIndex := 246, attributes := #[] }])
  fields := #[{ name := "E", type := .double, accessFlags := 25, slot := 0, constantValue := 0 }, { name := "PI", type := .double, accessFlags := 25, slot := 1, constantValue := 0 }, { name := "TAU", type := .double, accessFlags := 25, slot := 2, constantValue := 0 }, { name := "DEGREES_TO_RADIANS", type := .double, accessFlags := 26, slot := 3, constantValue := 0 }, { name := "RADIANS_TO_DEGREES", type := .double, accessFlags := 26, slot := 4, constantValue := 0 }, { name := "negativeZeroFloatBits", type := .long, accessFlags := 26, slot := 5, constantValue := 0 }, { name := "negativeZeroDoubleBits", type := .long, accessFlags := 26, slot := 6, constantValue := 0 }, { name := "twoToTheDoubleScaleUp", type := .double, accessFlags := 8, slot := 7, constantValue := 0 }, { name := "twoToTheDoubleScaleDown", type := .double, accessFlags := 8, slot := 8, constantValue := 0 }, { name := "$assertionsDisabled", type := .boolean, accessFlags := 4120, slot := 9, constantValue := 0 }]
  methods := #[k18m0, k18m1, k18m2]
  instanceTypes := #[]
  staticTypes := #[.double, .double, .double, .double, .double, .long, .long, .double, .double, .boolean]
  resolved := Array.replicate 460 none
  statics := none }

def pool19 : Array CpInfo := pool [(2, .class_ 4), (1, u "java/lang/Object"), (0, u "<init>"), (0, u "()V"), (35, .class_ 44), (1, u "java/util/Objects"), (0, u "requireNonNull"), (0, u "(Ljava/lang/Object;)Ljava/lang/Object;")] 137

def k19m0 : Method := { name := "<init>", desc := "()V", sig := { parameters := [], returnType := none }, accessFlags := 2, code := none }
def k19c1 : Code := { maxStack := 2, maxLocals := 1, code := jdk_31_method_10_code, exceptionTable := #[], attributes := #[] }
def k19m1 : Method := { name := "requireNonNull", desc := "(Ljava/lang/Object;)Ljava/lang/Object;", sig := { parameters := [(.object "java/lang/Object")], returnType := some (.object "java/lang/Object") }, accessFlags := 9, code := some k19c1 }
/-- java/util/Objects -/
def k19 : Class := { plain "java/util/Objects" (some 0) with
  accessFlags := 49
  interfaces := #[]
  cf := some (fileOf pool19 42 #[] #[{ accessFlags := 2, nameIndex := 5, descriptorIndex := 6, attributes := #[] }, { accessFlags := 9, nameIndex := 45, descriptorIndex := 46, attributes := #[] }] 49 2 #[] #[])
  fields := #[]
  methods := #[k19m0, k19m1]
  instanceTypes := #[]
  staticTypes := #[]
  resolved := Array.replicate 184 none
  statics := none }

def pool20 : Array CpInfo := pool [(9, u "<init>"), (6, .class_ 18), (1, u "java/lang/Object"), (0, u "()V"), (1, .class_ 23), (1, u "jdk/internal/util/ArraysSupport"), (0, u "LOG2_ARRAY_LONG_INDEX_SCALE"), (0, u "I"), (2, u "U"), (0, u "Ljdk/internal/misc/Unsafe;"), (8, u "BIG_ENDIAN"), (0, u "Z"), (8, u "LOG2_BYTE_BIT_SIZE"), (4, u "LOG2_ARRAY_INT_INDEX_SCALE"), (54, u "JLA"), (0, u "Ljdk/internal/access/JavaLangAccess;"), (11, u "LOG2_ARRAY_BOOLEAN_INDEX_SCALE"), (9, u "LOG2_ARRAY_BYTE_INDEX_SCALE"), (5, u "LOG2_ARRAY_CHAR_INDEX_SCALE"), (5, u "LOG2_ARRAY_SHORT_INDEX_SCALE"), (18, u "LOG2_ARRAY_FLOAT_INDEX_SCALE"), (24, u "LOG2_ARRAY_DOUBLE_INDEX_SCALE"), (6, .methodref 195 196), (0, .class_ 197), (0, .nameAndType 198 199), (0, u "java/lang/Math"), (0, u "max"), (0, u "(II)I"), (0, .integer 2147483639), (76, u "T_BOOLEAN"), (2, u "T_CHAR"), (1, u "T_FLOAT"), (1, u "T_DOUBLE"), (1, u "T_BYTE"), (1, u "T_SHORT"), (1, u "T_INT"), (1, u "T_LONG"), (1, u "SOFT_MAX_ARRAY_LENGTH"), (56, u "newLength"), (0, u "(III)I")] 25

def k20m0 : Method := { name := "<init>", desc := "()V", sig := { parameters := [], returnType := none }, accessFlags := 2, code := none }
def k20c1 : Code := { maxStack := 3, maxLocals := 4, code := jdk_48_method_27_code, exceptionTable := #[], attributes := #[] }
def k20m1 : Method := { name := "newLength", desc := "(III)I", sig := { parameters := [.int, .int, .int], returnType := some .int }, accessFlags := 9, code := some k20c1 }
/-- jdk/internal/util/ArraysSupport -/
def k20 : Class := { plain "jdk/internal/util/ArraysSupport" (some 0) with
  accessFlags := 33
  interfaces := #[]
  cf := some (fileOf pool20 21 #[] #[{ accessFlags := 2, nameIndex := 9, descriptorIndex := 19, attributes := #[] }, { accessFlags := 9, nameIndex := 351, descriptorIndex := 352, attributes := #[] }] 33 16 #[] #[{ accessFlags := 24, nameIndex := 28, descriptorIndex := 29, attributes := #[] }, { accessFlags := 26, nameIndex := 38, descriptorIndex := 39, attributes := #[] }, { accessFlags := 25, nameIndex := 121, descriptorIndex := 25, attributes := #[] }, { accessFlags := 25, nameIndex := 131, descriptorIndex := 25, attributes := #[] }, { accessFlags := 25, nameIndex := 137, descriptorIndex := 25, attributes := #[] }, { accessFlags := 25, nameIndex := 143, descriptorIndex := 25, attributes := #[] }, { accessFlags := 25, nameIndex := 53, descriptorIndex := 25, attributes := #[] }, { accessFlags := 25, nameIndex := 24, descriptorIndex := 25, attributes := #[] }, { accessFlags := 25, nameIndex := 162, descriptorIndex := 25, attributes := #[] }, { accessFlags := 25, nameIndex := 187, descriptorIndex := 25, attributes := #[] }, { accessFlags := 26, nameIndex := 48, descriptorIndex := 25, attributes := #[] }, { accessFlags := 25, nameIndex := 277, descriptorIndex := 25, attributes := #[] }, { accessFlags := 25, nameIndex := 280, descriptorIndex := 25, attributes := #[] }, { accessFlags := 25, nameIndex := 282, descriptorIndex := 25, attributes := #[] }, { accessFlags := 25, nameIndex := 284, descriptorIndex := 25, attributes := #[] }, { accessFlags := 25, nameIndex := 286, descriptorIndex := 25, attributes := #[] }, { accessFlags := 25, nameIndex := 288, descriptorIndex := 25, attributes := #[] }, { accessFlags := 25, nameIndex := 290, descriptorIndex := 25, attributes := #[] }, { accessFlags := 25, nameIndex := 292, descriptorIndex := 25, attributes := #[] }, { accessFlags := 26, nameIndex := 108, descriptorIndex := 109, attributes := #[] }, { accessFlags := 25, nameIndex := 294, descriptorIndex := 25, attributes := #[] }])
  fields := #[{ name := "U", type := (.object "jdk/internal/misc/Unsafe"), accessFlags := 24, slot := 0, constantValue := 0 }, { name := "BIG_ENDIAN", type := .boolean, accessFlags := 26, slot := 1, constantValue := 0 }, { name := "LOG2_ARRAY_BOOLEAN_INDEX_SCALE", type := .int, accessFlags := 25, slot := 2, constantValue := 0 }, { name := "LOG2_ARRAY_BYTE_INDEX_SCALE", type := .int, accessFlags := 25, slot := 3, constantValue := 0 }, { name := "LOG2_ARRAY_CHAR_INDEX_SCALE", type := .int, accessFlags := 25, slot := 4, constantValue := 0 }, { name := "LOG2_ARRAY_SHORT_INDEX_SCALE", type := .int, accessFlags := 25, slot := 5, constantValue := 0 }, { name := "LOG2_ARRAY_INT_INDEX_SCALE", type := .int, accessFlags := 25, slot := 6, constantValue := 0 }, { name := "LOG2_ARRAY_LONG_INDEX_SCALE", type := .int, accessFlags := 25, slot := 7, constantValue := 0 }, { name := "LOG2_ARRAY_FLOAT_INDEX_SCALE", type := .int, accessFlags := 25, slot := 8, constantValue := 0 }, { name := "LOG2_ARRAY_DOUBLE_INDEX_SCALE", type := .int, accessFlags := 25, slot := 9, constantValue := 0 }, { name := "LOG2_BYTE_BIT_SIZE", type := .int, accessFlags := 26, slot := 10, constantValue := 0 }, { name := "T_BOOLEAN", type := .int, accessFlags := 25, slot := 11, constantValue := 0 }, { name := "T_CHAR", type := .int, accessFlags := 25, slot := 12, constantValue := 0 }, { name := "T_FLOAT", type := .int, accessFlags := 25, slot := 13, constantValue := 0 }, { name := "T_DOUBLE", type := .int, accessFlags := 25, slot := 14, constantValue := 0 }, { name := "T_BYTE", type := .int, accessFlags := 25, slot := 15, constantValue := 0 }, { name := "T_SHORT", type := .int, accessFlags := 25, slot := 16, constantValue := 0 }, { name := "T_INT", type := .int, accessFlags := 25, slot := 17, constantValue := 0 }, { name := "T_LONG", type := .int, accessFlags := 25, slot := 18, constantValue := 0 }, { name := "JLA", type := (.object "jdk/internal/access/JavaLangAccess"), accessFlags := 26, slot := 19, constantValue := 0 }, { name := "SOFT_MAX_ARRAY_LENGTH", type := .int, accessFlags := 25, slot := 20, constantValue := 0 }]
  methods := #[k20m0, k20m1]
  instanceTypes := #[]
  staticTypes := #[(.object "jdk/internal/misc/Unsafe"), .boolean, .int, .int, .int, .int, .int, .int, .int, .int, .int, .int, .int, .int, .int, .int, .int, .int, .int, (.object "jdk/internal/access/JavaLangAccess"), .int]
  resolved := Array.replicate 378 none
  statics := none }

def pool21 : Array CpInfo := pool [(2, .class_ 4), (1, u "java/lang/Object"), (0, u "<init>"), (0, u "()V"), (17, .class_ 26), (1, u "jdk/internal/util/Preconditions"), (28, .class_ 56), (0, u "jdk/internal/util/Preconditions$4"), (57, .class_ 115), (0, u "jdk/internal/util/Preconditions$1"), (7, u "SIOOBE_FORMATTER"), (0, u "Ljava/util/function/BiFunction;"), (0, .class_ 126), (0, u "jdk/internal/util/Preconditions$2"), (3, u "AIOOBE_FORMATTER"), (0, .class_ 132), (0, u "jdk/internal/util/Preconditions$3"), (3, u "IOOBE_FORMATTER")] 57

def k21m0 : Method := { name := "<init>", desc := "()V", sig := { parameters := [], returnType := none }, accessFlags := 1, code := none }
/-- jdk/internal/util/Preconditions -/
def k21 : Class := { plain "jdk/internal/util/Preconditions" (some 0) with
  accessFlags := 33
  interfaces := #[]
  cf := some (fileOf pool21 24 #[.nestMembers #[55, 131, 125, 114]] #[{ accessFlags := 1, nameIndex := 5, descriptorIndex := 6, attributes := #[] }] 33 2 #[] #[{ accessFlags := 25, nameIndex := 123, descriptorIndex := 124, attributes := #[] }, { accessFlags := 25, nameIndex := 130, descriptorIndex := 124, attributes := #[] }, { accessFlags := 25, nameIndex := 136, descriptorIndex := 124, attributes := #[] }])
  fields := #[{ name := "SIOOBE_FORMATTER", type := (.object "java/util/function/BiFunction"), accessFlags := 25, slot := 0, constantValue := 0 }, { name := "AIOOBE_FORMATTER", type := (.object "java/util/function/BiFunction"), accessFlags := 25, slot := 1, constantValue := 0 }, { name := "IOOBE_FORMATTER", type := (.object "java/util/function/BiFunction"), accessFlags := 25, slot := 2, constantValue := 0 }]
  methods := #[k21m0]
  instanceTypes := #[]
  staticTypes := #[(.object "java/util/function/BiFunction"), (.object "java/util/function/BiFunction"), (.object "java/util/function/BiFunction")]
  resolved := Array.replicate 194 none
  statics := some 2 }

def pool22 : Array CpInfo := pool [(1, u "java/lang/Cloneable"), (0, .class_ 1), (0, u "java/lang/Object"), (0, .class_ 3)] 3

/-- java/lang/Cloneable -/
def k22 : Class := { plain "java/lang/Cloneable" (some 0) with
  accessFlags := 1537
  interfaces := #[]
  cf := some (fileOf pool22 2 #[] #[] 1537 4 #[] #[])
  fields := #[]
  methods := #[]
  instanceTypes := #[]
  staticTypes := #[]
  resolved := Array.replicate 8 none
  statics := none }

/-- the primitive byte -/
def k23 : Class := { plain "byte" none with kind := .primitive 'B', accessFlags := 0x411 }
/-- [B -/
def k24 : Class := { plain "[B" (some 0) with kind := .array 23 .byte, interfaces := #[22, 2], accessFlags := 1041 }

/-- the primitive char -/
def k25 : Class := { plain "char" none with kind := .primitive 'C', accessFlags := 0x411 }
/-- [C -/
def k26 : Class := { plain "[C" (some 0) with kind := .array 25 .char, interfaces := #[22, 2], accessFlags := 1041 }

/-- the primitive int -/
def k27 : Class := { plain "int" none with kind := .primitive 'I', accessFlags := 0x411 }
/-- [I -/
def k28 : Class := { plain "[I" (some 0) with kind := .array 27 .int, interfaces := #[22, 2], accessFlags := 1041 }

def heap : Heap := #[{ cls := 7, slots := #[.long 0, .int 1, .null, .int 0, .null, .int 0, .int 0], vm := .statics 7 },
  { cls := 9, slots := #[.ref 3], vm := .statics 9 },
  { cls := 21, slots := #[.null, .null, .null], vm := .statics 21 },
  { cls := 9, slots := #[.null], vm := .none }]
def classes : Array Class := #[k0, k1, k2, k3, k4, k5, k6, k7, k8, k9, k10, k11, k12, k13, k14, k15, k16, k17, k18, k19, k20, k21, k22, k23, k24, k25, k26, k27, k28]
def interned : List (Array UInt16 × Addr) := []
def slotsUsed : Nat := 12
def theMethod : MethodId := ⟨1, 1⟩
def args0 : Array Value := #[.int 65, .int 66, .int 1, .int 67, .int 68]
def aboutOver (below : List Frame) : State where
  vm := { classes := classes, interned := interned.toArray }
  heap := heap
  slotsUsed := slotsUsed
  threads := #[{ frames := .invoking theMethod args0 :: below }]
def below0 : List Frame := [.native { method := ⟨0, 0⟩, args := #[] }]
def about1 : State := aboutOver below0
def p0 : Program := .bare "" "" ""
def e0 : Env := launch0.env 0 0 0
theorem w_frames : about1.frames = Frame.invoking theMethod args0 :: below0 := rfl
set_option maxRecDepth 65536 in
theorem w_args : argsFit about1.vm theMethod args0 = true := by decide +kernel
set_option maxRecDepth 65536 in
theorem w_heap : heapFits about1 = true := by decide +kernel
set_option maxRecDepth 65536 in
theorem w_runnable : about1.curStatus? = some .runnable := by decide +kernel
set_option maxRecDepth 65536 in
theorem w_alone : about1.alone = true := by decide +kernel
set_option maxRecDepth 65536 in
theorem w_named : about1.methodNamed? x = some theMethod := by decide +kernel
set_option maxRecDepth 65536 in
theorem w_hears : about1.hears theMethod below0 = true := by decide +kernel
set_option maxRecDepth 65536 in
theorem w_ripe : about1.ripe theMethod args0 below0 = true := by decide +kernel
theorem w_running : about1.status = .running := rfl
set_option maxRecDepth 65536 in
theorem w_room : about1.hasRoom e0.platform room_1 = true :=
  launch0.hasRoom_least _ room_1 (by decide +kernel) (by decide +kernel) (by decide +kernel) (by decide +kernel) (by decide +kernel) (by decide +kernel)
theorem allAtoms_all (ts : List Jvm.Cond) (a : Array Jvm.Value) (st : Jvm.State) : (allAtoms ts).before a st = ts.all (fun c => c.before a st) := by
  induction ts with
  | nil => rfl
  | cons c t ih =>
    show (Jvm.Cond.and c (allAtoms t)).before a st = _
    rw [Jvm.Cond.before_and, ih, List.all_cons]
def words1 : List Jvm.Cond := Jvm.Cond.code x code maxLocals ret :: tables_1
/-- a 'code' word, met by the world's own term for the bytes: nothing is compared byte by byte -/
theorem code_word {y : MethodName} {bytes : ByteArray} {mx : Nat} {rt : Option FieldType} {a : Array Value} {s : State} {m : MethodId} {meth : Method} {c : Code} (h1 : s.methodNamed? y = some m) (h2 : s.vm.method? m = some meth) (h3 : meth.code = some c) (h4 : c.code = bytes)
    (h5 : (c.maxLocals == mx && c.exceptionTable.isEmpty && decide (c.maxStack ≤ mostOperands) && decide (meth.sig.returnType = rt) && !meth.locks && decide (parseMethodDescriptor y.desc = some meth.sig)) = true) : (Jvm.Cond.code y bytes mx rt).before a s = true := by
  simp only [Bool.and_eq_true, beq_iff_eq, Bool.not_eq_true', decide_eq_true_eq] at h5
  obtain ⟨⟨⟨⟨⟨g1, g2⟩, g3⟩, g4⟩, g5⟩, g6⟩ := h5
  simp [Cond.before, Cond.holds, Cond.value, h1, h2, h3, h4, g1, g2, g3, g4, g5, g6]
def isCode : Jvm.Cond → Bool
  | .code _ _ _ _ => true
  | _ => false
theorem all_split {L : List Jvm.Cond} {P : Jvm.Cond → Bool} (h1 : L.all (fun c => isCode c || P c) = true) (h2 : ∀ c ∈ L.filter isCode, P c = true) : L.all P = true := by
  refine List.all_eq_true.mpr fun c hc => ?_
  have h := List.all_eq_true.mp h1 c hc
  rcases Bool.eq_false_or_eq_true (isCode c) with hi | hi
  · exact h2 c (List.mem_filter.mpr ⟨hc, hi⟩)
  · simpa [hi] using h
set_option maxRecDepth 65536 in
theorem w_c0 : (Jvm.Cond.code x code maxLocals ret).before args0 about1 = true := code_word (m := ⟨1, 1⟩) (meth := k1m1) (c := k1c1) (by decide +kernel) rfl rfl rfl (by decide +kernel)
set_option maxRecDepth 65536 in
theorem w_c1 : (Jvm.Cond.code ({ cls := "java/lang/String", name := "<init>", desc := "([C)V" } : Jvm.MethodName) jdk_42_method_3_code (2 : Nat) (Option.none : Option Jvm.ClassFile.FieldType)).before args0 about1 = true := code_word (m := ⟨7, 1⟩) (meth := k7m1) (c := k7c1) (by decide +kernel) rfl rfl rfl (by decide +kernel)
set_option maxRecDepth 65536 in
theorem w_c2 : (Jvm.Cond.code ({ cls := "java/lang/String", name := "<init>", desc := "([CIILjava/lang/Void;)V" } : Jvm.MethodName) jdk_42_method_149_code (6 : Nat) (Option.none : Option Jvm.ClassFile.FieldType)).before args0 about1 = true := code_word (m := ⟨7, 7⟩) (meth := k7m7) (c := k7c7) (by decide +kernel) rfl rfl rfl (by decide +kernel)
set_option maxRecDepth 65536 in
theorem w_c3 : (Jvm.Cond.code ({ cls := "java/lang/Object", name := "<init>", desc := "()V" } : Jvm.MethodName) object_method_1_code (1 : Nat) (Option.none : Option Jvm.ClassFile.FieldType)).before args0 about1 = true := code_word (m := ⟨0, 0⟩) (meth := k0m0) (c := k0c0) (by decide +kernel) rfl rfl rfl (by decide +kernel)
set_option maxRecDepth 65536 in
theorem w_c4 : (Jvm.Cond.code ({ cls := "java/lang/StringUTF16", name := "compress", desc := "([CII)[B" } : Jvm.MethodName) jdk_52_method_16_code (6 : Nat) (Option.some (Jvm.ClassFile.FieldType.array Jvm.ClassFile.FieldType.byte))).before args0 about1 = true := code_word (m := ⟨8, 2⟩) (meth := k8m2) (c := k8c2) (by decide +kernel) rfl rfl rfl (by decide +kernel)
set_option maxRecDepth 65536 in
theorem w_c5 : (Jvm.Cond.code ({ cls := "java/lang/StringUTF16", name := "compress", desc := "([CI[BII)I" } : Jvm.MethodName) jdk_52_method_21_code (7 : Nat) (Option.some Jvm.ClassFile.FieldType.int)).before args0 about1 = true := code_word (m := ⟨8, 3⟩) (meth := k8m3) (c := k8c3) (by decide +kernel) rfl rfl rfl (by decide +kernel)
set_option maxRecDepth 65536 in
theorem w_c6 : (Jvm.Cond.code ({ cls := "java/lang/StringUTF16", name := "coderFromArrayLen", desc := "([BI)B" } : Jvm.MethodName) jdk_52_method_15_code (2 : Nat) (Option.some Jvm.ClassFile.FieldType.byte)).before args0 about1 = true := code_word (m := ⟨8, 1⟩) (meth := k8m1) (c := k8c1) (by decide +kernel) rfl rfl rfl (by decide +kernel)
set_option maxRecDepth 65536 in
theorem w_c7 : (Jvm.Cond.code ({ cls := "java/util/Optional", name := "empty", desc := "()Ljava/util/Optional;" } : Jvm.MethodName) jdk_32_method_1_code (1 : Nat) (Option.some (Jvm.ClassFile.FieldType.object "java/util/Optional"))).before args0 about1 = true := code_word (m := ⟨9, 0⟩) (meth := k9m0) (c := k9c0) (by decide +kernel) rfl rfl rfl (by decide +kernel)
set_option maxRecDepth 65536 in
theorem w_c8 : (Jvm.Cond.code ({ cls := "java/lang/String", name := "valueOf", desc := "(C)Ljava/lang/String;" } : Jvm.MethodName) jdk_42_method_139_code (1 : Nat) (Option.some (Jvm.ClassFile.FieldType.object "java/lang/String"))).before args0 about1 = true := code_word (m := ⟨7, 5⟩) (meth := k7m5) (c := k7c5) (by decide +kernel) rfl rfl rfl (by decide +kernel)
set_option maxRecDepth 65536 in
theorem w_c9 : (Jvm.Cond.code ({ cls := "java/lang/StringLatin1", name := "canEncode", desc := "(C)Z" } : Jvm.MethodName) jdk_43_method_3_code (1 : Nat) (Option.some Jvm.ClassFile.FieldType.boolean)).before args0 about1 = true := code_word (m := ⟨12, 1⟩) (meth := k12m1) (c := k12c1) (by decide +kernel) rfl rfl rfl (by decide +kernel)
set_option maxRecDepth 65536 in
theorem w_c10 : (Jvm.Cond.code ({ cls := "java/lang/StringLatin1", name := "toBytes", desc := "(C)[B" } : Jvm.MethodName) jdk_43_method_46_code (1 : Nat) (Option.some (Jvm.ClassFile.FieldType.array Jvm.ClassFile.FieldType.byte))).before args0 about1 = true := code_word (m := ⟨12, 3⟩) (meth := k12m3) (c := k12c3) (by decide +kernel) rfl rfl rfl (by decide +kernel)
set_option maxRecDepth 65536 in
theorem w_c11 : (Jvm.Cond.code ({ cls := "java/lang/String", name := "<init>", desc := "([BB)V" } : Jvm.MethodName) jdk_42_method_151_code (3 : Nat) (Option.none : Option Jvm.ClassFile.FieldType)).before args0 about1 = true := code_word (m := ⟨7, 9⟩) (meth := k7m9) (c := k7c9) (by decide +kernel) rfl rfl rfl (by decide +kernel)
set_option maxRecDepth 65536 in
theorem w_c12 : (Jvm.Cond.code ({ cls := "com/example/lease/lease/store/KeyRange", name := "<init>", desc := "(Ljava/lang/String;Ljava/util/Optional;)V" } : Jvm.MethodName) prog_34_method_1_code (3 : Nat) (Option.none : Option Jvm.ClassFile.FieldType)).before args0 about1 = true := code_word (m := ⟨11, 0⟩) (meth := k11m0) (c := k11c0) (by decide +kernel) rfl rfl rfl (by decide +kernel)
set_option maxRecDepth 65536 in
theorem w_c13 : (Jvm.Cond.code ({ cls := "java/lang/Record", name := "<init>", desc := "()V" } : Jvm.MethodName) jdk_30_method_1_code (1 : Nat) (Option.none : Option Jvm.ClassFile.FieldType)).before args0 about1 = true := code_word (m := ⟨10, 0⟩) (meth := k10m0) (c := k10c0) (by decide +kernel) rfl rfl rfl (by decide +kernel)
set_option maxRecDepth 65536 in
theorem w_c14 : (Jvm.Cond.code ({ cls := "com/example/lease/lease/store/KeyRange", name := "condition", desc := "(Ljava/lang/String;)Ljava/lang/String;" } : Jvm.MethodName) prog_34_method_3_code (2 : Nat) (Option.some (Jvm.ClassFile.FieldType.object "java/lang/String"))).before args0 about1 = true := code_word (m := ⟨11, 1⟩) (meth := k11m1) (c := k11c1) (by decide +kernel) rfl rfl rfl (by decide +kernel)
set_option maxRecDepth 65536 in
theorem w_c15 : (Jvm.Cond.code ({ cls := "java/util/Optional", name := "isPresent", desc := "()Z" } : Jvm.MethodName) jdk_32_method_6_code (1 : Nat) (Option.some Jvm.ClassFile.FieldType.boolean)).before args0 about1 = true := code_word (m := ⟨9, 3⟩) (meth := k9m3) (c := k9c3) (by decide +kernel) rfl rfl rfl (by decide +kernel)
set_option maxRecDepth 65536 in
theorem w_c16 : (Jvm.Cond.code ({ cls := "java/lang/StringBuilder", name := "<init>", desc := "()V" } : Jvm.MethodName) jdk_67_method_1_code (1 : Nat) (Option.none : Option Jvm.ClassFile.FieldType)).before args0 about1 = true := code_word (m := ⟨15, 0⟩) (meth := k15m0) (c := k15c0) (by decide +kernel) rfl rfl rfl (by decide +kernel)
set_option maxRecDepth 65536 in
theorem w_c17 : (Jvm.Cond.code ({ cls := "java/lang/AbstractStringBuilder", name := "<init>", desc := "(I)V" } : Jvm.MethodName) jdk_68_method_2_code (2 : Nat) (Option.none : Option Jvm.ClassFile.FieldType)).before args0 about1 = true := code_word (m := ⟨14, 1⟩) (meth := k14m1) (c := k14c1) (by decide +kernel) rfl rfl rfl (by decide +kernel)
set_option maxRecDepth 65536 in
theorem w_c18 : (Jvm.Cond.code ({ cls := "java/lang/StringBuilder", name := "append", desc := "(Ljava/lang/String;)Ljava/lang/StringBuilder;" } : Jvm.MethodName) jdk_67_method_7_code (2 : Nat) (Option.some (Jvm.ClassFile.FieldType.object "java/lang/StringBuilder"))).before args0 about1 = true := code_word (m := ⟨15, 1⟩) (meth := k15m1) (c := k15c1) (by decide +kernel) rfl rfl rfl (by decide +kernel)
set_option maxRecDepth 65536 in
theorem w_c19 : (Jvm.Cond.code ({ cls := "java/lang/AbstractStringBuilder", name := "append", desc := "(Ljava/lang/String;)Ljava/lang/AbstractStringBuilder;" } : Jvm.MethodName) jdk_68_method_22_code (3 : Nat) (Option.some (Jvm.ClassFile.FieldType.object "java/lang/AbstractStringBuilder"))).before args0 about1 = true := code_word (m := ⟨14, 5⟩) (meth := k14m5) (c := k14c5) (by decide +kernel) rfl rfl rfl (by decide +kernel)
set_option maxRecDepth 65536 in
theorem w_c20 : (Jvm.Cond.code ({ cls := "java/lang/String", name := "length", desc := "()I" } : Jvm.MethodName) jdk_42_method_54_code (1 : Nat) (Option.some Jvm.ClassFile.FieldType.int)).before args0 about1 = true := code_word (m := ⟨7, 3⟩) (meth := k7m3) (c := k7c3) (by decide +kernel) rfl rfl rfl (by decide +kernel)
set_option maxRecDepth 65536 in
theorem w_c21 : (Jvm.Cond.code ({ cls := "java/lang/String", name := "coder", desc := "()B" } : Jvm.MethodName) jdk_42_method_152_code (1 : Nat) (Option.some Jvm.ClassFile.FieldType.byte)).before args0 about1 = true := code_word (m := ⟨7, 10⟩) (meth := k7m10) (c := k7c10) (by decide +kernel) rfl rfl rfl (by decide +kernel)
set_option maxRecDepth 65536 in
theorem w_c22 : (Jvm.Cond.code ({ cls := "java/lang/AbstractStringBuilder", name := "ensureCapacityInternal", desc := "(I)V" } : Jvm.MethodName) jdk_68_method_9_code (3 : Nat) (Option.none : Option Jvm.ClassFile.FieldType)).before args0 about1 = true := code_word (m := ⟨14, 3⟩) (meth := k14m3) (c := k14c3) (by decide +kernel) rfl rfl rfl (by decide +kernel)
set_option maxRecDepth 65536 in
theorem w_c23 : (Jvm.Cond.code ({ cls := "java/lang/AbstractStringBuilder", name := "putStringAt", desc := "(ILjava/lang/String;)V" } : Jvm.MethodName) jdk_68_method_73_code (3 : Nat) (Option.none : Option Jvm.ClassFile.FieldType)).before args0 about1 = true := code_word (m := ⟨14, 9⟩) (meth := k14m9) (c := k14c9) (by decide +kernel) rfl rfl rfl (by decide +kernel)
set_option maxRecDepth 65536 in
theorem w_c24 : (Jvm.Cond.code ({ cls := "java/lang/AbstractStringBuilder", name := "inflateIfNeededFor", desc := "(Ljava/lang/String;)V" } : Jvm.MethodName) jdk_68_method_71_code (2 : Nat) (Option.none : Option Jvm.ClassFile.FieldType)).before args0 about1 = true := code_word (m := ⟨14, 8⟩) (meth := k14m8) (c := k14c8) (by decide +kernel) rfl rfl rfl (by decide +kernel)
set_option maxRecDepth 65536 in
theorem w_c25 : (Jvm.Cond.code ({ cls := "java/lang/String", name := "getBytes", desc := "([BIB)V" } : Jvm.MethodName) jdk_42_method_147_code (4 : Nat) (Option.none : Option Jvm.ClassFile.FieldType)).before args0 about1 = true := code_word (m := ⟨7, 6⟩) (meth := k7m6) (c := k7c6) (by decide +kernel) rfl rfl rfl (by decide +kernel)
set_option maxRecDepth 65536 in
theorem w_c26 : (Jvm.Cond.code ({ cls := "java/lang/StringBuilder", name := "toString", desc := "()Ljava/lang/String;" } : Jvm.MethodName) jdk_67_method_42_code (1 : Nat) (Option.some (Jvm.ClassFile.FieldType.object "java/lang/String"))).before args0 about1 = true := code_word (m := ⟨15, 2⟩) (meth := k15m2) (c := k15c2) (by decide +kernel) rfl rfl rfl (by decide +kernel)
set_option maxRecDepth 65536 in
theorem w_c27 : (Jvm.Cond.code ({ cls := "java/lang/String", name := "<init>", desc := "(Ljava/lang/StringBuilder;)V" } : Jvm.MethodName) jdk_42_method_53_code (2 : Nat) (Option.none : Option Jvm.ClassFile.FieldType)).before args0 about1 = true := code_word (m := ⟨7, 2⟩) (meth := k7m2) (c := k7c2) (by decide +kernel) rfl rfl rfl (by decide +kernel)
set_option maxRecDepth 65536 in
theorem w_c28 : (Jvm.Cond.code ({ cls := "java/lang/String", name := "<init>", desc := "(Ljava/lang/AbstractStringBuilder;Ljava/lang/Void;)V" } : Jvm.MethodName) jdk_42_method_150_code (5 : Nat) (Option.none : Option Jvm.ClassFile.FieldType)).before args0 about1 = true := code_word (m := ⟨7, 8⟩) (meth := k7m8) (c := k7c8) (by decide +kernel) rfl rfl rfl (by decide +kernel)
set_option maxRecDepth 65536 in
theorem w_c29 : (Jvm.Cond.code ({ cls := "java/lang/AbstractStringBuilder", name := "getValue", desc := "()[B" } : Jvm.MethodName) jdk_68_method_64_code (1 : Nat) (Option.some (Jvm.ClassFile.FieldType.array Jvm.ClassFile.FieldType.byte))).before args0 about1 = true := code_word (m := ⟨14, 6⟩) (meth := k14m6) (c := k14c6) (by decide +kernel) rfl rfl rfl (by decide +kernel)
set_option maxRecDepth 65536 in
theorem w_c30 : (Jvm.Cond.code ({ cls := "java/lang/StringBuilder", name := "length", desc := "()I" } : Jvm.MethodName) jdk_67_method_93_code (1 : Nat) (Option.some Jvm.ClassFile.FieldType.int)).before args0 about1 = true := code_word (m := ⟨15, 3⟩) (meth := k15m3) (c := k15c3) (by decide +kernel) rfl rfl rfl (by decide +kernel)
set_option maxRecDepth 65536 in
theorem w_c31 : (Jvm.Cond.code ({ cls := "java/lang/AbstractStringBuilder", name := "length", desc := "()I" } : Jvm.MethodName) jdk_68_method_6_code (1 : Nat) (Option.some Jvm.ClassFile.FieldType.int)).before args0 about1 = true := code_word (m := ⟨14, 2⟩) (meth := k14m2) (c := k14c2) (by decide +kernel) rfl rfl rfl (by decide +kernel)
set_option maxRecDepth 65536 in
theorem w_c32 : (Jvm.Cond.code ({ cls := "java/lang/AbstractStringBuilder", name := "isLatin1", desc := "()Z" } : Jvm.MethodName) jdk_68_method_68_code (1 : Nat) (Option.some Jvm.ClassFile.FieldType.boolean)).before args0 about1 = true := code_word (m := ⟨14, 7⟩) (meth := k14m7) (c := k14c7) (by decide +kernel) rfl rfl rfl (by decide +kernel)
set_option maxRecDepth 65536 in
theorem w_c33 : (Jvm.Cond.code ({ cls := "java/util/Arrays", name := "copyOfRange", desc := "([BII)[B" } : Jvm.MethodName) jdk_65_method_132_code (3 : Nat) (Option.some (Jvm.ClassFile.FieldType.array Jvm.ClassFile.FieldType.byte))).before args0 about1 = true := code_word (m := ⟨17, 3⟩) (meth := k17m3) (c := k17c3) (by decide +kernel) rfl rfl rfl (by decide +kernel)
set_option maxRecDepth 65536 in
theorem w_c34 : (Jvm.Cond.code ({ cls := "java/util/Arrays", name := "copyOfRangeByte", desc := "([BII)[B" } : Jvm.MethodName) jdk_65_method_133_code (5 : Nat) (Option.some (Jvm.ClassFile.FieldType.array Jvm.ClassFile.FieldType.byte))).before args0 about1 = true := code_word (m := ⟨17, 4⟩) (meth := k17m4) (c := k17c4) (by decide +kernel) rfl rfl rfl (by decide +kernel)
set_option maxRecDepth 65536 in
theorem w_c35 : (Jvm.Cond.code ({ cls := "java/util/Arrays", name := "checkLength", desc := "(II)V" } : Jvm.MethodName) jdk_65_method_131_code (2 : Nat) (Option.none : Option Jvm.ClassFile.FieldType)).before args0 about1 = true := code_word (m := ⟨17, 2⟩) (meth := k17m2) (c := k17c2) (by decide +kernel) rfl rfl rfl (by decide +kernel)
set_option maxRecDepth 65536 in
theorem w_c36 : (Jvm.Cond.code ({ cls := "java/lang/Math", name := "min", desc := "(II)I" } : Jvm.MethodName) jdk_29_method_69_code (2 : Nat) (Option.some Jvm.ClassFile.FieldType.int)).before args0 about1 = true := code_word (m := ⟨18, 2⟩) (meth := k18m2) (c := k18c2) (by decide +kernel) rfl rfl rfl (by decide +kernel)
set_option maxRecDepth 65536 in
theorem w_c37 : (Jvm.Cond.code ({ cls := "java/lang/String", name := "equals", desc := "(Ljava/lang/Object;)Z" } : Jvm.MethodName) jdk_42_method_66_code (3 : Nat) (Option.some Jvm.ClassFile.FieldType.boolean)).before args0 about1 = true := code_word (m := ⟨7, 4⟩) (meth := k7m4) (c := k7c4) (by decide +kernel) rfl rfl rfl (by decide +kernel)
set_option maxRecDepth 65536 in
theorem w_c38 : (Jvm.Cond.code ({ cls := "java/lang/StringLatin1", name := "equals", desc := "([B[B)Z" } : Jvm.MethodName) jdk_43_method_13_code (3 : Nat) (Option.some Jvm.ClassFile.FieldType.boolean)).before args0 about1 = true := code_word (m := ⟨12, 2⟩) (meth := k12m2) (c := k12c2) (by decide +kernel) rfl rfl rfl (by decide +kernel)
set_option maxRecDepth 65536 in
theorem w_c39 : (Jvm.Cond.code ({ cls := "java/util/Optional", name := "of", desc := "(Ljava/lang/Object;)Ljava/util/Optional;" } : Jvm.MethodName) jdk_32_method_3_code (1 : Nat) (Option.some (Jvm.ClassFile.FieldType.object "java/util/Optional"))).before args0 about1 = true := code_word (m := ⟨9, 2⟩) (meth := k9m2) (c := k9c2) (by decide +kernel) rfl rfl rfl (by decide +kernel)
set_option maxRecDepth 65536 in
theorem w_c40 : (Jvm.Cond.code ({ cls := "java/util/Objects", name := "requireNonNull", desc := "(Ljava/lang/Object;)Ljava/lang/Object;" } : Jvm.MethodName) jdk_31_method_10_code (1 : Nat) (Option.some (Jvm.ClassFile.FieldType.object "java/lang/Object"))).before args0 about1 = true := code_word (m := ⟨19, 1⟩) (meth := k19m1) (c := k19c1) (by decide +kernel) rfl rfl rfl (by decide +kernel)
set_option maxRecDepth 65536 in
theorem w_c41 : (Jvm.Cond.code ({ cls := "java/util/Optional", name := "<init>", desc := "(Ljava/lang/Object;)V" } : Jvm.MethodName) jdk_32_method_2_code (2 : Nat) (Option.none : Option Jvm.ClassFile.FieldType)).before args0 about1 = true := code_word (m := ⟨9, 1⟩) (meth := k9m1) (c := k9c1) (by decide +kernel) rfl rfl rfl (by decide +kernel)
set_option maxRecDepth 65536 in
theorem w_c42 : (Jvm.Cond.code ({ cls := "java/lang/AbstractStringBuilder", name := "newCapacity", desc := "(I)I" } : Jvm.MethodName) jdk_68_method_10_code (6 : Nat) (Option.some Jvm.ClassFile.FieldType.int)).before args0 about1 = true := code_word (m := ⟨14, 4⟩) (meth := k14m4) (c := k14c4) (by decide +kernel) rfl rfl rfl (by decide +kernel)
set_option maxRecDepth 65536 in
theorem w_c43 : (Jvm.Cond.code ({ cls := "jdk/internal/util/ArraysSupport", name := "newLength", desc := "(III)I" } : Jvm.MethodName) jdk_48_method_27_code (4 : Nat) (Option.some Jvm.ClassFile.FieldType.int)).before args0 about1 = true := code_word (m := ⟨20, 1⟩) (meth := k20m1) (c := k20c1) (by decide +kernel) rfl rfl rfl (by decide +kernel)
set_option maxRecDepth 65536 in
theorem w_c44 : (Jvm.Cond.code ({ cls := "java/lang/Math", name := "max", desc := "(II)I" } : Jvm.MethodName) jdk_29_method_65_code (2 : Nat) (Option.some Jvm.ClassFile.FieldType.int)).before args0 about1 = true := code_word (m := ⟨18, 1⟩) (meth := k18m1) (c := k18c1) (by decide +kernel) rfl rfl rfl (by decide +kernel)
set_option maxRecDepth 65536 in
theorem w_c45 : (Jvm.Cond.code ({ cls := "java/util/Arrays", name := "copyOf", desc := "([BI)[B" } : Jvm.MethodName) jdk_65_method_121_code (3 : Nat) (Option.some (Jvm.ClassFile.FieldType.array Jvm.ClassFile.FieldType.byte))).before args0 about1 = true := code_word (m := ⟨17, 1⟩) (meth := k17m1) (c := k17c1) (by decide +kernel) rfl rfl rfl (by decide +kernel)
def codes1 : List Jvm.Cond := [Jvm.Cond.code x code maxLocals ret, Jvm.Cond.code ({ cls := "java/lang/String", name := "<init>", desc := "([C)V" } : Jvm.MethodName) jdk_42_method_3_code (2 : Nat) (Option.none : Option Jvm.ClassFile.FieldType), Jvm.Cond.code ({ cls := "java/lang/String", name := "<init>", desc := "([CIILjava/lang/Void;)V" } : Jvm.MethodName) jdk_42_method_149_code (6 : Nat) (Option.none : Option Jvm.ClassFile.FieldType), Jvm.Cond.code ({ cls := "java/lang/Object", name := "<init>", desc := "()V" } : Jvm.MethodName) object_method_1_code (1 : Nat) (Option.none : Option Jvm.ClassFile.FieldType), Jvm.Cond.code ({ cls := "java/lang/StringUTF16", name := "compress", desc := "([CII)[B" } : Jvm.MethodName) jdk_52_method_16_code (6 : Nat) (Option.some (Jvm.ClassFile.FieldType.array Jvm.ClassFile.FieldType.byte)), Jvm.Cond.code ({ cls := "java/lang/StringUTF16", name := "compress", desc := "([CI[BII)I" } : Jvm.MethodName) jdk_52_method_21_code (7 : Nat) (Option.some Jvm.ClassFile.FieldType.int), Jvm.Cond.code ({ cls := "java/lang/StringUTF16", name := "coderFromArrayLen", desc := "([BI)B" } : Jvm.MethodName) jdk_52_method_15_code (2 : Nat) (Option.some Jvm.ClassFile.FieldType.byte), Jvm.Cond.code ({ cls := "java/util/Optional", name := "empty", desc := "()Ljava/util/Optional;" } : Jvm.MethodName) jdk_32_method_1_code (1 : Nat) (Option.some (Jvm.ClassFile.FieldType.object "java/util/Optional")), Jvm.Cond.code ({ cls := "java/lang/String", name := "valueOf", desc := "(C)Ljava/lang/String;" } : Jvm.MethodName) jdk_42_method_139_code (1 : Nat) (Option.some (Jvm.ClassFile.FieldType.object "java/lang/String")), Jvm.Cond.code ({ cls := "java/lang/StringLatin1", name := "canEncode", desc := "(C)Z" } : Jvm.MethodName) jdk_43_method_3_code (1 : Nat) (Option.some Jvm.ClassFile.FieldType.boolean), Jvm.Cond.code ({ cls := "java/lang/StringLatin1", name := "toBytes", desc := "(C)[B" } : Jvm.MethodName) jdk_43_method_46_code (1 : Nat) (Option.some (Jvm.ClassFile.FieldType.array Jvm.ClassFile.FieldType.byte)), Jvm.Cond.code ({ cls := "java/lang/String", name := "<init>", desc := "([BB)V" } : Jvm.MethodName) jdk_42_method_151_code (3 : Nat) (Option.none : Option Jvm.ClassFile.FieldType), Jvm.Cond.code ({ cls := "com/example/lease/lease/store/KeyRange", name := "<init>", desc := "(Ljava/lang/String;Ljava/util/Optional;)V" } : Jvm.MethodName) prog_34_method_1_code (3 : Nat) (Option.none : Option Jvm.ClassFile.FieldType), Jvm.Cond.code ({ cls := "java/lang/Record", name := "<init>", desc := "()V" } : Jvm.MethodName) jdk_30_method_1_code (1 : Nat) (Option.none : Option Jvm.ClassFile.FieldType), Jvm.Cond.code ({ cls := "com/example/lease/lease/store/KeyRange", name := "condition", desc := "(Ljava/lang/String;)Ljava/lang/String;" } : Jvm.MethodName) prog_34_method_3_code (2 : Nat) (Option.some (Jvm.ClassFile.FieldType.object "java/lang/String")), Jvm.Cond.code ({ cls := "java/util/Optional", name := "isPresent", desc := "()Z" } : Jvm.MethodName) jdk_32_method_6_code (1 : Nat) (Option.some Jvm.ClassFile.FieldType.boolean), Jvm.Cond.code ({ cls := "java/lang/StringBuilder", name := "<init>", desc := "()V" } : Jvm.MethodName) jdk_67_method_1_code (1 : Nat) (Option.none : Option Jvm.ClassFile.FieldType), Jvm.Cond.code ({ cls := "java/lang/AbstractStringBuilder", name := "<init>", desc := "(I)V" } : Jvm.MethodName) jdk_68_method_2_code (2 : Nat) (Option.none : Option Jvm.ClassFile.FieldType), Jvm.Cond.code ({ cls := "java/lang/StringBuilder", name := "append", desc := "(Ljava/lang/String;)Ljava/lang/StringBuilder;" } : Jvm.MethodName) jdk_67_method_7_code (2 : Nat) (Option.some (Jvm.ClassFile.FieldType.object "java/lang/StringBuilder")), Jvm.Cond.code ({ cls := "java/lang/AbstractStringBuilder", name := "append", desc := "(Ljava/lang/String;)Ljava/lang/AbstractStringBuilder;" } : Jvm.MethodName) jdk_68_method_22_code (3 : Nat) (Option.some (Jvm.ClassFile.FieldType.object "java/lang/AbstractStringBuilder")), Jvm.Cond.code ({ cls := "java/lang/String", name := "length", desc := "()I" } : Jvm.MethodName) jdk_42_method_54_code (1 : Nat) (Option.some Jvm.ClassFile.FieldType.int), Jvm.Cond.code ({ cls := "java/lang/String", name := "coder", desc := "()B" } : Jvm.MethodName) jdk_42_method_152_code (1 : Nat) (Option.some Jvm.ClassFile.FieldType.byte), Jvm.Cond.code ({ cls := "java/lang/AbstractStringBuilder", name := "ensureCapacityInternal", desc := "(I)V" } : Jvm.MethodName) jdk_68_method_9_code (3 : Nat) (Option.none : Option Jvm.ClassFile.FieldType), Jvm.Cond.code ({ cls := "java/lang/AbstractStringBuilder", name := "putStringAt", desc := "(ILjava/lang/String;)V" } : Jvm.MethodName) jdk_68_method_73_code (3 : Nat) (Option.none : Option Jvm.ClassFile.FieldType), Jvm.Cond.code ({ cls := "java/lang/AbstractStringBuilder", name := "inflateIfNeededFor", desc := "(Ljava/lang/String;)V" } : Jvm.MethodName) jdk_68_method_71_code (2 : Nat) (Option.none : Option Jvm.ClassFile.FieldType), Jvm.Cond.code ({ cls := "java/lang/String", name := "getBytes", desc := "([BIB)V" } : Jvm.MethodName) jdk_42_method_147_code (4 : Nat) (Option.none : Option Jvm.ClassFile.FieldType), Jvm.Cond.code ({ cls := "java/lang/StringBuilder", name := "toString", desc := "()Ljava/lang/String;" } : Jvm.MethodName) jdk_67_method_42_code (1 : Nat) (Option.some (Jvm.ClassFile.FieldType.object "java/lang/String")), Jvm.Cond.code ({ cls := "java/lang/String", name := "<init>", desc := "(Ljava/lang/StringBuilder;)V" } : Jvm.MethodName) jdk_42_method_53_code (2 : Nat) (Option.none : Option Jvm.ClassFile.FieldType), Jvm.Cond.code ({ cls := "java/lang/String", name := "<init>", desc := "(Ljava/lang/AbstractStringBuilder;Ljava/lang/Void;)V" } : Jvm.MethodName) jdk_42_method_150_code (5 : Nat) (Option.none : Option Jvm.ClassFile.FieldType), Jvm.Cond.code ({ cls := "java/lang/AbstractStringBuilder", name := "getValue", desc := "()[B" } : Jvm.MethodName) jdk_68_method_64_code (1 : Nat) (Option.some (Jvm.ClassFile.FieldType.array Jvm.ClassFile.FieldType.byte)), Jvm.Cond.code ({ cls := "java/lang/StringBuilder", name := "length", desc := "()I" } : Jvm.MethodName) jdk_67_method_93_code (1 : Nat) (Option.some Jvm.ClassFile.FieldType.int), Jvm.Cond.code ({ cls := "java/lang/AbstractStringBuilder", name := "length", desc := "()I" } : Jvm.MethodName) jdk_68_method_6_code (1 : Nat) (Option.some Jvm.ClassFile.FieldType.int), Jvm.Cond.code ({ cls := "java/lang/AbstractStringBuilder", name := "isLatin1", desc := "()Z" } : Jvm.MethodName) jdk_68_method_68_code (1 : Nat) (Option.some Jvm.ClassFile.FieldType.boolean), Jvm.Cond.code ({ cls := "java/util/Arrays", name := "copyOfRange", desc := "([BII)[B" } : Jvm.MethodName) jdk_65_method_132_code (3 : Nat) (Option.some (Jvm.ClassFile.FieldType.array Jvm.ClassFile.FieldType.byte)), Jvm.Cond.code ({ cls := "java/util/Arrays", name := "copyOfRangeByte", desc := "([BII)[B" } : Jvm.MethodName) jdk_65_method_133_code (5 : Nat) (Option.some (Jvm.ClassFile.FieldType.array Jvm.ClassFile.FieldType.byte)), Jvm.Cond.code ({ cls := "java/util/Arrays", name := "checkLength", desc := "(II)V" } : Jvm.MethodName) jdk_65_method_131_code (2 : Nat) (Option.none : Option Jvm.ClassFile.FieldType), Jvm.Cond.code ({ cls := "java/lang/Math", name := "min", desc := "(II)I" } : Jvm.MethodName) jdk_29_method_69_code (2 : Nat) (Option.some Jvm.ClassFile.FieldType.int), Jvm.Cond.code ({ cls := "java/lang/String", name := "equals", desc := "(Ljava/lang/Object;)Z" } : Jvm.MethodName) jdk_42_method_66_code (3 : Nat) (Option.some Jvm.ClassFile.FieldType.boolean), Jvm.Cond.code ({ cls := "java/lang/StringLatin1", name := "equals", desc := "([B[B)Z" } : Jvm.MethodName) jdk_43_method_13_code (3 : Nat) (Option.some Jvm.ClassFile.FieldType.boolean), Jvm.Cond.code ({ cls := "java/util/Optional", name := "of", desc := "(Ljava/lang/Object;)Ljava/util/Optional;" } : Jvm.MethodName) jdk_32_method_3_code (1 : Nat) (Option.some (Jvm.ClassFile.FieldType.object "java/util/Optional")), Jvm.Cond.code ({ cls := "java/util/Objects", name := "requireNonNull", desc := "(Ljava/lang/Object;)Ljava/lang/Object;" } : Jvm.MethodName) jdk_31_method_10_code (1 : Nat) (Option.some (Jvm.ClassFile.FieldType.object "java/lang/Object")), Jvm.Cond.code ({ cls := "java/util/Optional", name := "<init>", desc := "(Ljava/lang/Object;)V" } : Jvm.MethodName) jdk_32_method_2_code (2 : Nat) (Option.none : Option Jvm.ClassFile.FieldType), Jvm.Cond.code ({ cls := "java/lang/AbstractStringBuilder", name := "newCapacity", desc := "(I)I" } : Jvm.MethodName) jdk_68_method_10_code (6 : Nat) (Option.some Jvm.ClassFile.FieldType.int), Jvm.Cond.code ({ cls := "jdk/internal/util/ArraysSupport", name := "newLength", desc := "(III)I" } : Jvm.MethodName) jdk_48_method_27_code (4 : Nat) (Option.some Jvm.ClassFile.FieldType.int), Jvm.Cond.code ({ cls := "java/lang/Math", name := "max", desc := "(II)I" } : Jvm.MethodName) jdk_29_method_65_code (2 : Nat) (Option.some Jvm.ClassFile.FieldType.int), Jvm.Cond.code ({ cls := "java/util/Arrays", name := "copyOf", desc := "([BI)[B" } : Jvm.MethodName) jdk_65_method_121_code (3 : Nat) (Option.some (Jvm.ClassFile.FieldType.array Jvm.ClassFile.FieldType.byte))]
set_option maxRecDepth 65536 in
theorem codes_eq : words1.filter isCode = codes1 := rfl
theorem w_codes : ∀ c ∈ words1.filter isCode, c.before args0 about1 = true := by
  rw [codes_eq]
  intro c hc
  simp only [codes1, List.mem_cons, List.not_mem_nil, or_false] at hc
  rcases hc with rfl | rfl | rfl | rfl | rfl | rfl | rfl | rfl | rfl | rfl | rfl | rfl | rfl | rfl | rfl | rfl | rfl | rfl | rfl | rfl | rfl | rfl | rfl | rfl | rfl | rfl | rfl | rfl | rfl | rfl | rfl | rfl | rfl | rfl | rfl | rfl | rfl | rfl | rfl | rfl | rfl | rfl | rfl | rfl | rfl | rfl
  · exact w_c0
  · exact w_c1
  · exact w_c2
  · exact w_c3
  · exact w_c4
  · exact w_c5
  · exact w_c6
  · exact w_c7
  · exact w_c8
  · exact w_c9
  · exact w_c10
  · exact w_c11
  · exact w_c12
  · exact w_c13
  · exact w_c14
  · exact w_c15
  · exact w_c16
  · exact w_c17
  · exact w_c18
  · exact w_c19
  · exact w_c20
  · exact w_c21
  · exact w_c22
  · exact w_c23
  · exact w_c24
  · exact w_c25
  · exact w_c26
  · exact w_c27
  · exact w_c28
  · exact w_c29
  · exact w_c30
  · exact w_c31
  · exact w_c32
  · exact w_c33
  · exact w_c34
  · exact w_c35
  · exact w_c36
  · exact w_c37
  · exact w_c38
  · exact w_c39
  · exact w_c40
  · exact w_c41
  · exact w_c42
  · exact w_c43
  · exact w_c44
  · exact w_c45
set_option maxRecDepth 65536 in
theorem w_t1 : (words1.take 24).all (fun c => isCode c || c.before args0 about1) = true := by decide +kernel
set_option maxRecDepth 65536 in
theorem w_t2 : ((words1.drop 24).take 24).all (fun c => isCode c || c.before args0 about1) = true := by decide +kernel
set_option maxRecDepth 65536 in
theorem w_t3 : (((words1.drop 24).drop 24).take 24).all (fun c => isCode c || c.before args0 about1) = true := by decide +kernel
set_option maxRecDepth 65536 in
theorem w_t4 : ((((words1.drop 24).drop 24).drop 24).take 24).all (fun c => isCode c || c.before args0 about1) = true := by decide +kernel
set_option maxRecDepth 65536 in
theorem w_t5 : (((((words1.drop 24).drop 24).drop 24).drop 24).take 24).all (fun c => isCode c || c.before args0 about1) = true := by decide +kernel
set_option maxRecDepth 65536 in
theorem w_t6 : ((((((words1.drop 24).drop 24).drop 24).drop 24).drop 24).take 24).all (fun c => isCode c || c.before args0 about1) = true := by decide +kernel
set_option maxRecDepth 65536 in
theorem w_t7 : (((((((words1.drop 24).drop 24).drop 24).drop 24).drop 24).drop 24).take 24).all (fun c => isCode c || c.before args0 about1) = true := by decide +kernel
set_option maxRecDepth 65536 in
theorem w_t8 : ((((((((words1.drop 24).drop 24).drop 24).drop 24).drop 24).drop 24).drop 24).take 24).all (fun c => isCode c || c.before args0 about1) = true := by decide +kernel
set_option maxRecDepth 65536 in
theorem w_t9 : (((((((((words1.drop 24).drop 24).drop 24).drop 24).drop 24).drop 24).drop 24).drop 24).take 24).all (fun c => isCode c || c.before args0 about1) = true := by decide +kernel
set_option maxRecDepth 65536 in
theorem w_t10 : (((((((((words1.drop 24).drop 24).drop 24).drop 24).drop 24).drop 24).drop 24).drop 24).drop 24).all (fun c => isCode c || c.before args0 about1) = true := by decide +kernel
theorem w_tables : (allAtoms (Jvm.Cond.code x code maxLocals ret :: tables_1)).before args0 about1 = true := by
  rw [allAtoms_all]
  show words1.all (fun c => c.before args0 about1) = true
  refine all_split ?_ w_codes
  rw [← List.take_append_drop 24 words1, List.all_append, w_t1, ← List.take_append_drop 24 (words1.drop 24), List.all_append, w_t2, ← List.take_append_drop 24 ((words1.drop 24).drop 24), List.all_append, w_t3, ← List.take_append_drop 24 (((words1.drop 24).drop 24).drop 24), List.all_append, w_t4, ← List.take_append_drop 24 ((((words1.drop 24).drop 24).drop 24).drop 24), List.all_append, w_t5, ← List.take_append_drop 24 (((((words1.drop 24).drop 24).drop 24).drop 24).drop 24), List.all_append, w_t6, ← List.take_append_drop 24 ((((((words1.drop 24).drop 24).drop 24).drop 24).drop 24).drop 24), List.all_append, w_t7, ← List.take_append_drop 24 (((((((words1.drop 24).drop 24).drop 24).drop 24).drop 24).drop 24).drop 24), List.all_append, w_t8, ← List.take_append_drop 24 ((((((((words1.drop 24).drop 24).drop 24).drop 24).drop 24).drop 24).drop 24).drop 24), List.all_append, w_t9, w_t10]
  rfl
set_option maxRecDepth 65536 in
theorem w_rest : rest_1_c.before args0 about1 = true := by decide +kernel
set_option maxRecDepth 65536 in
theorem w_case : (Jvm.Cond.and given_1 narrow_1).before args0 about1 = true := by decide +kernel
set_option maxRecDepth 65536 in
theorem w_consts : constsHeld consts_1 about1 := Jvm.Lit.constsHeldB_iff.mp (by decide +kernel)
theorem w_applies : (headSpec (Jvm.Cond.code x code maxLocals ret :: tables_1) room_1).applies x e0.platform about1 = true :=
  (Spec.applies_iff w_frames).mpr ⟨w_running, w_runnable, w_alone, w_named, w_hears, w_ripe, w_room, w_tables⟩
theorem atStart : AtStart classFile x code maxLocals ret World_1 tables_1 room_1 Calls_1 rest_1 Pre_1 launch0 p0 e0 about1 theMethod args0 below0 :=
  ⟨lists_1, trivial, launch0.admits_env _ _ _, launch0.least_env, fairChoices_fair.cas, fairChoices_fair.clock, w_frames, w_args, w_heap, w_applies, ⟨w_consts, trivial⟩, w_rest, w_case⟩
end start1
theorem witness_1 : WitnessClaimed_1 := ⟨start1.p0, start1.e0, start1.about1, start1.theMethod, start1.args0, start1.below0, start1.atStart⟩
end Jvm.Pilot.@@N@@
