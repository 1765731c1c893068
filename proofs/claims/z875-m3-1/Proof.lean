import JvmDerived
import JvmDerived.Pilot.@@N@@Statement
import JvmDerived.Pilot.@@N@@Code
set_option linter.unusedVariables false
set_option linter.unusedSimpArgs false
namespace Jvm.RoadKit
open Sem ClassFile Op Lib Jvm.Stand Jvm.Free Jvm.LawKit
section New
variable {p : Program} {l : Launch} {e : Env} {R : Room} {s : State} {m : MethodId} {args : Array Value} {below : List Frame} {meth : Method} {c : Code} {T : State} {locs : List Loc} {cells slots : Nat}
theorem retI (X : Stand p l e R s m args below meth c T locs cells slots) (hx : p.tables.exec = Jvm.exec) {pc : Nat} {Ls : Array Slot} {z : Int32} {rest : List Value} (hret : meth.sig.returnType = some .int) (hd : decode c.code pc = .ok (.ireturn, 1)) {fs : List Frame}
    (hl : ∀ (f : JFrame) (acts : List Action), f.method = m → f.locked = none → f.entered = [] → (doReturn e (T.setTop f) acts (some (.int z))).1 = T.setFrames fs) : Steps p.tables e below (T.setTop (mkF m pc Ls (.int z :: rest))) (T.setFrames fs) := by
  have hm' : T.vm.method? m = some meth := X.method'
  have hn : narrow .int (.int z) = .int z := rfl
  show Steps p.tables e below (T.setTop { method := m, pc := pc, locals := Ls, stack := _ :: rest, locked := none }) _
  jvm_step X.here [X.here.top, hx, hd, hm', hret, hn]
  first | (intro acts; rw [hl _ acts rfl rfl rfl]) | rw [hl _ _ rfl rfl rfl]
  exact Steps.refl _
end New
end Jvm.RoadKit
/- laws to paste: Road.backV, Road.eqW (cut by pick.py; bodies as the Statement names them) -/
namespace Jvm.Pilot.@@N@@
namespace StrChars
open Jvm Sem ClassFile Op Lib Jvm.Stand Jvm.Free.XT Jvm.Free.ALB Jvm.Free.JM Jvm.Free
open Jvm.Lib.Cold (StaticIs)
/-- a char array whose places are chars -/
def Ch (a : Addr) (A : Cell) (U : State) : Prop := Arr .char a A U ∧ Typed .char A
theorem Ch.mv {a : Addr} {A : Cell} {U U' : State} (h : Ch a A U) (hal : U.vm.Alike U'.vm) (hh : U'.heap = U.heap) : Ch a A U' := ⟨h.1.mv hal hh, h.2⟩
theorem Ch.keep {a : Addr} {A : Cell} {U U' : State} (h : Ch a A U) (hal : U.vm.Alike U'.vm) (hk : U'.heap[a]? = some A) : Ch a A U' := ⟨h.1.keep hal hk, h.2⟩
/-- what place i of a char[]'s cell holds -/
def cv (A : Cell) (i : Nat) : Int32 := match A.slots[i]? with | some (.int x) => x | _ => 0
theorem Ch.get {a : Addr} {A : Cell} {U : State} (h : Ch a A U) {i : Nat} (hi : i < A.slots.size) : A.slots[i]? = some (.int (cv A i)) := by
  have e := Array.getElem?_eq_getElem hi
  have f := h.2 i _ e
  unfold cv; rw [e]
  generalize A.slots[i] = v at f
  cases v <;> simp [fits] at f ⊢
/-- the byte that i2b leaves of a char -/
def lo8 (x : Int32) : Int32 := x.toInt8.toInt32
theorem fits_lo8 (y : Int32) : fits .byte (.int (lo8 y)) = true := by
  have h1 := y.toInt8.le_toInt
  have h2 := y.toInt8.toInt_lt
  simp only [lo8, fits, Bool.and_eq_true, decide_eq_true_eq, Int32.le_iff_toInt_le, Int8.toInt_toInt32, show (-128 : Int32).toInt = -128 from by decide, show (127 : Int32).toInt = 127 from by decide]
  omega
/-- A' is A but that each place j of lo .. hi - 1 holds f j -/
def Laid (A A' : Cell) (lo hi : Nat) (f : Nat → Value) : Prop := A'.cls = A.cls ∧ A'.vm = A.vm ∧ A'.slots.size = A.slots.size ∧ ∀ i, A'.slots[i]? = if lo ≤ i ∧ i < hi then some (f i) else A.slots[i]?
theorem Laid.zero (A : Cell) (lo : Nat) (f : Nat → Value) : Laid A A lo (lo + 0) f := ⟨rfl, rfl, rfl, fun i => by rw [if_neg (by omega)]⟩
theorem Laid.step {A Ak : Cell} {lo k : Nat} {f : Nat → Value} {v : Value} (h : Laid A Ak lo k f) (hlo : lo ≤ k) (hk : k < Ak.slots.size) (hv : v = f k) : Laid A (Ak.setSlot k v) lo (k + 1) f := by
  refine ⟨h.1, h.2.1, by simpa [Cell.setSlot] using h.2.2.1, fun i => ?_⟩
  by_cases e : k = i
  · subst e; rw [Cell.slots_setSlot_self v hk, if_pos (by omega), hv]
  · rw [Cell.slots_setSlot_ne v e, h.2.2.2 i]
    by_cases q : lo ≤ i ∧ i < k
    · rw [if_pos q, if_pos (by omega)]
    · rw [if_neg q, if_neg (by omega)]
def U16 : String := "java/lang/StringUTF16"
namespace Cmp5
def yN : MethodName := ⟨"java/lang/StringUTF16", "compress", "([CI[BII)I"⟩
abbrev yB : ByteArray := jdk_52_method_21_code
theorem d0 : decode yB 0 = .ok (.iconst 0, 1) := by decide +kernel
theorem d1 : decode yB 1 = .ok (.istore 5, 2) := by decide +kernel
theorem d3 : decode yB 3 = .ok (.iload 5, 2) := by decide +kernel
theorem d5 : decode yB 5 = .ok (.iload 4, 2) := by decide +kernel
theorem d7 : decode yB 7 = .ok (.if_icmp (.ge) 37, 3) := by decide +kernel
theorem d10 : decode yB 10 = .ok (.aload_n 0, 1) := by decide +kernel
theorem d11 : decode yB 11 = .ok (.iload_n 1, 1) := by decide +kernel
theorem d12 : decode yB 12 = .ok (.caload, 1) := by decide +kernel
theorem d13 : decode yB 13 = .ok (.istore 6, 2) := by decide +kernel
theorem d15 : decode yB 15 = .ok (.iload 6, 2) := by decide +kernel
theorem d17 : decode yB 17 = .ok (.sipush 255, 3) := by decide +kernel
theorem d20 : decode yB 20 = .ok (.if_icmp (.le) 6, 3) := by decide +kernel
theorem d26 : decode yB 26 = .ok (.aload_n 2, 1) := by decide +kernel
theorem d27 : decode yB 27 = .ok (.iload_n 3, 1) := by decide +kernel
theorem d28 : decode yB 28 = .ok (.iload 6, 2) := by decide +kernel
theorem d30 : decode yB 30 = .ok (.i2b, 1) := by decide +kernel
theorem d31 : decode yB 31 = .ok (.bastore, 1) := by decide +kernel
theorem d32 : decode yB 32 = .ok (.iinc 1 1, 3) := by decide +kernel
theorem d35 : decode yB 35 = .ok (.iinc 3 1, 3) := by decide +kernel
theorem d38 : decode yB 38 = .ok (.iinc 5 1, 3) := by decide +kernel
theorem d41 : decode yB 41 = .ok (.goto (-38), 3) := by decide +kernel
theorem d44 : decode yB 44 = .ok (.iload 4, 2) := by decide +kernel
theorem d46 : decode yB 46 = .ok (.ireturn, 1) := by decide +kernel
def site : List Cond := []
def tab : Cond := tabOf yN yB 7 (some .int) site
def P (b : Addr) (A : Cell) (d : Addr) (B : Cell) (o q len : Nat) (args : Array Value) (s : State) : Prop := args = #[.ref b, .int (Int32.ofNat o), .ref d, .int (Int32.ofNat q), .int (Int32.ofNat len)] ∧ Ch b A s ∧ Arr .byte d B s ∧ b ≠ d ∧ o + len ≤ A.slots.size ∧ q + len ≤ B.slots.size ∧ ∀ i, i < len → ¬ 255 < cv A (o + i)
def E (b : Addr) (A : Cell) (d : Addr) (B : Cell) (o q len : Nat) (r : Option Value) (s u : State) : Prop := r = some (.int (Int32.ofNat len)) ∧ ∃ B', Put d B' s u ∧ Laid B B' q (q + len) (fun j => Value.int (lo8 (cv A (o + (j - q)))))
/-- no char of the range above 255: len; the places written hold each char's low byte -/
theorem law (l : Launch) (b : Addr) (A : Cell) (d : Addr) (B : Cell) (o q len : Nat) : Law l yN 5 5 0 0 yB 7 (some .int) site (P b A d B o q len) (E b A d B o q len) (copyLocs d q len) 0 0 := by
  refine Law.of_walk (plainFor_of_name (by decide +kernel)) (by decide +kernel) (by decide +kernel) (by decide) (fun _ _ h => by rw [h.1]; rfl) (fun _ U U' hal hh h => ⟨h.1, h.2.1.mv hal hh, h.2.2.1.mv hal hh, h.2.2.2⟩) (fun r U U' V V' h1 hal h2 h => ⟨h.1, h.2.elim fun B' q => ⟨B', q.1.mv h1 h2, q.2⟩⟩) ?_
  intro p e s m args below meth c s₁ X0 hexec hbytes hml hret hlk hnm hown hh0 W hP
  obtain ⟨rfl, hA, hB, hne, l1, l2, hp⟩ := hP
  have c1 : Steps p.tables e below (s₁.setTop (entryFrame m #[.ref b, .int (Int32.ofNat o), .ref d, .int (Int32.ofNat q), .int (Int32.ofNat len)] 7)) (s₁.setTop (mkF m 0 #[.val (.ref b), .val (.int (Int32.ofNat o)), .val (.ref d), .val (.int (Int32.ofNat q)), .val (.int (Int32.ofNat len)), .unset, .unset] [])) := entry rfl
  have hA0 := hA.1.mv X0.warmed.alike hh0
  have hB0 := hB.mv X0.warmed.alike hh0
  have a31 := hA.1.2.2.2
  have c2 : Steps p.tables e below (s₁.setTop (entryFrame m #[.ref b, .int (Int32.ofNat o), .ref d, .int (Int32.ofNat q), .int (Int32.ofNat len)] 7)) (s₁.setTop (mkF m 3 #[.val (.ref b), .val (.int (Int32.ofNat o)), .val (.ref d), .val (.int (Int32.ofNat q)), .val (.int (Int32.ofNat len)), .val (.int 0), .unset] [])) := c1.trans (by
    refine iconstV X0.here hexec rfl 0 (hb hbytes d0) (by decide) ?_
    refine XS.istore X0.here hexec rfl (hb hbytes d1) rfl rfl ?_
    exact Steps.refl _)
  have loop : ∀ (r i : Nat), i + r = len → ∀ (z : Slot), (z = .unset ∨ ∃ w, z = .val w ∧ w.category = 1) → ∀ (Tl : State) (Bk : Cell), Stand p l e { frames := 0, locals := 0, cells := 0, slots := 0 } s m #[.ref b, .int (Int32.ofNat o), .ref d, .int (Int32.ofNat q), .int (Int32.ofNat len)] below meth c Tl ([] ++ copyLocs d q i) 0 0 → Put d Bk s₁ Tl → Laid B Bk q (q + i) (fun j => Value.int (lo8 (cv A (o + (j - q))))) →
      Steps p.tables e below (s₁.setTop (entryFrame m #[.ref b, .int (Int32.ofNat o), .ref d, .int (Int32.ofNat q), .int (Int32.ofNat len)] 7)) (Tl.setTop (mkF m 3 #[.val (.ref b), .val (.int (Int32.ofNat (o + i))), .val (.ref d), .val (.int (Int32.ofNat (q + i))), .val (.int (Int32.ofNat len)), .val (.int (Int32.ofNat i)), z] [])) → ∃ (T' : State) (B' : Cell) (z' : Slot), Stand p l e { frames := 0, locals := 0, cells := 0, slots := 0 } s m #[.ref b, .int (Int32.ofNat o), .ref d, .int (Int32.ofNat q), .int (Int32.ofNat len)] below meth c T' ([] ++ copyLocs d q len) 0 0 ∧ Put d B' s₁ T' ∧ Laid B B' q (q + len) (fun j => Value.int (lo8 (cv A (o + (j - q))))) ∧
      Steps p.tables e below (s₁.setTop (entryFrame m #[.ref b, .int (Int32.ofNat o), .ref d, .int (Int32.ofNat q), .int (Int32.ofNat len)] 7)) (T'.setTop (mkF m 3 #[.val (.ref b), .val (.int (Int32.ofNat (o + len))), .val (.ref d), .val (.int (Int32.ofNat (q + len))), .val (.int (Int32.ofNat len)), .val (.int (Int32.ofNat len)), z'] [])) := by
    intro r
    induction r with
    | zero =>
      intro i hi z hz Tl Bk Xl pl fl cl
      have hil : i = len := by omega
      rw [hil] at Xl fl cl
      exact ⟨Tl, Bk, z, Xl, pl, fl, cl⟩
    | succ r ih =>
      intro i hi z hz Tl Bk Xl pl fl cl
      have all := X0.warmed.alike.symm.trans Xl.warmed.alike
      have hAl := hA0.keep all (pl.other hne hA0.1)
      have hBk := hB0.like all pl.1 fl.1 fl.2.1 fl.2.2.1
      have hlt : q + i < Bk.slots.size := by rw [fl.2.2.1]; omega
      have c3 : Steps p.tables e below (s₁.setTop (entryFrame m #[.ref b, .int (Int32.ofNat o), .ref d, .int (Int32.ofNat q), .int (Int32.ofNat len)] 7)) (Tl.setTop (mkF m 12 #[.val (.ref b), .val (.int (Int32.ofNat (o + i))), .val (.ref d), .val (.int (Int32.ofNat (q + i))), .val (.int (Int32.ofNat len)), .val (.int (Int32.ofNat i)), z] [.int (Int32.ofNat (o + i)), .ref b])) := cl.trans (by
        refine XS.iload Xl.here hexec rfl (hb hbytes d3) rfl ?_
        refine XS.iload Xl.here hexec rfl (hb hbytes d5) rfl ?_
        refine XS.icmpNo Xl.here hexec rfl (hb hbytes d7) rfl (ii_ge_f (lt32 (by omega) (by omega))) ?_
        refine XS.aloadN Xl.here hexec rfl (hb hbytes d10) rfl rfl ?_
        refine XS.iloadN Xl.here hexec rfl (hb hbytes d11) rfl ?_
        exact Steps.refl _)
      have c4 : Steps p.tables e below (s₁.setTop (entryFrame m #[.ref b, .int (Int32.ofNat o), .ref d, .int (Int32.ofNat q), .int (Int32.ofNat len)] 7)) (Tl.setTop (mkF m 13 #[.val (.ref b), .val (.int (Int32.ofNat (o + i))), .val (.ref d), .val (.int (Int32.ofNat (q + i))), .val (.int (Int32.ofNat len)), .val (.int (Int32.ofNat i)), z] [.int (cv A (o + i))])) := c3.trans (by
        refine Xl.aget hexec hAl rfl (hA.get (i := o + i) (by omega)) rfl rfl (hb hbytes d12) ?_
        exact Steps.refl _)
      have c5 : Steps p.tables e below (s₁.setTop (entryFrame m #[.ref b, .int (Int32.ofNat o), .ref d, .int (Int32.ofNat q), .int (Int32.ofNat len)] 7)) (Tl.setTop (mkF m 15 #[.val (.ref b), .val (.int (Int32.ofNat (o + i))), .val (.ref d), .val (.int (Int32.ofNat (q + i))), .val (.int (Int32.ofNat len)), .val (.int (Int32.ofNat i)), .val (.int (cv A (o + i)))] [])) := c4.trans (by
        refine XS.istoreS Xl.here hexec rfl (hb hbytes d13) rfl rfl hz ?_
        exact Steps.refl _)
      have c6 : Steps p.tables e below (s₁.setTop (entryFrame m #[.ref b, .int (Int32.ofNat o), .ref d, .int (Int32.ofNat q), .int (Int32.ofNat len)] 7)) (Tl.setTop (mkF m 31 #[.val (.ref b), .val (.int (Int32.ofNat (o + i))), .val (.ref d), .val (.int (Int32.ofNat (q + i))), .val (.int (Int32.ofNat len)), .val (.int (Int32.ofNat i)), .val (.int (cv A (o + i)))] [.int (lo8 (cv A (o + i))), .int (Int32.ofNat (q + i)), .ref d])) := c5.trans (by
        refine XS.iload Xl.here hexec rfl (hb hbytes d15) rfl ?_
        refine sipushV Xl.here hexec rfl 255 (hb hbytes d17) (by decide) ?_
        refine XS.icmpYes Xl.here hexec rfl (pc0 := 20) rfl (hb hbytes d20) rfl (ii_le_t (hp i (by omega))) (by decide) rfl ?_
        refine XS.aloadN Xl.here hexec rfl (hb hbytes d26) rfl rfl ?_
        refine XS.iloadN Xl.here hexec rfl (hb hbytes d27) rfl ?_
        refine XS.iload Xl.here hexec rfl (hb hbytes d28) rfl ?_
        refine i2b Xl.here hexec rfl (hb hbytes d30) rfl ?_
        exact Steps.refl _)
      obtain ⟨T7, X7, p7, st7⟩ := Xl.aput hexec hBk rfl hlt rfl (fits_lo8 (cv A (o + i))) (g := (mkF m 31 #[.val (.ref b), .val (.int (Int32.ofNat (o + i))), .val (.ref d), .val (.int (Int32.ofNat (q + i))), .val (.int (Int32.ofNat len)), .val (.int (Int32.ofNat i)), .val (.int (cv A (o + i)))] [.int (lo8 (cv A (o + i))), .int (Int32.ofNat (q + i)), .ref d])) rfl (rest := []) rfl (hb hbytes d31)
      have c8 : Steps p.tables e below (s₁.setTop (entryFrame m #[.ref b, .int (Int32.ofNat o), .ref d, .int (Int32.ofNat q), .int (Int32.ofNat len)] 7)) (T7.setTop (mkF m 32 #[.val (.ref b), .val (.int (Int32.ofNat (o + i))), .val (.ref d), .val (.int (Int32.ofNat (q + i))), .val (.int (Int32.ofNat len)), .val (.int (Int32.ofNat i)), .val (.int (cv A (o + i)))] [])) := c6.trans (st7 _ (Steps.refl _))
      have c9 : Steps p.tables e below (s₁.setTop (entryFrame m #[.ref b, .int (Int32.ofNat o), .ref d, .int (Int32.ofNat q), .int (Int32.ofNat len)] 7)) (T7.setTop (mkF m 3 #[.val (.ref b), .val (.int (Int32.ofNat (o + i) + 1)), .val (.ref d), .val (.int (Int32.ofNat (q + i) + 1)), .val (.int (Int32.ofNat len)), .val (.int (Int32.ofNat i + 1)), .val (.int (cv A (o + i)))] [])) := c8.trans (by
        refine iincV X7.here hexec rfl 1 (hb hbytes d32) (by decide) rfl rfl ?_
        refine iincV X7.here hexec rfl 1 (hb hbytes d35) (by decide) rfl rfl ?_
        refine iincV X7.here hexec rfl 1 (hb hbytes d38) (by decide) rfl rfl ?_
        refine XS.goto X7.here hexec rfl (pc0 := 41) rfl (hb hbytes d41) (by decide) rfl ?_
        exact Steps.refl _)
      have c10 : Steps p.tables e below (s₁.setTop (entryFrame m #[.ref b, .int (Int32.ofNat o), .ref d, .int (Int32.ofNat q), .int (Int32.ofNat len)] 7)) (T7.setTop (mkF m 3 #[.val (.ref b), .val (.int (Int32.ofNat (o + (i + 1)))), .val (.ref d), .val (.int (Int32.ofNat (q + (i + 1)))), .val (.int (Int32.ofNat len)), .val (.int (Int32.ofNat (i + 1))), .val (.int (cv A (o + i)))] [])) := by
        have := c9
        rw [succ32, succ32, succ32] at this
        exact this
      exact ih (i + 1) (by omega) _ (Or.inr ⟨_, rfl, rfl⟩) T7 _ (by rw [copyLocs_step, ← List.append_assoc]; exact X7) (pl.trans p7) (fl.step (by omega) hlt (by simp)) c10
  obtain ⟨T9, B9, z9, X9, p9, f9, g9⟩ := loop len 0 (by omega) .unset (Or.inl rfl) s₁ B (by simpa [copyLocs] using X0) ⟨hB0.1, fun _ _ => rfl, rfl⟩ (Laid.zero _ _ _) c2
  have c11 : Steps p.tables e below (s₁.setTop (entryFrame m #[.ref b, .int (Int32.ofNat o), .ref d, .int (Int32.ofNat q), .int (Int32.ofNat len)] 7)) (T9.setTop (mkF m 46 #[.val (.ref b), .val (.int (Int32.ofNat (o + len))), .val (.ref d), .val (.int (Int32.ofNat (q + len))), .val (.int (Int32.ofNat len)), .val (.int (Int32.ofNat len)), z9] [.int (Int32.ofNat len)])) := g9.trans (by
    refine XS.iload X9.here hexec rfl (hb hbytes d3) rfl ?_
    refine XS.iload X9.here hexec rfl (hb hbytes d5) rfl ?_
    refine XS.icmpYes X9.here hexec rfl (pc0 := 7) rfl (hb hbytes d7) rfl (ii_ge_t (nlt32 (by omega) (Nat.le_refl _))) (by decide) rfl ?_
    refine XS.iload X9.here hexec rfl (hb hbytes d44) rfl ?_
    exact Steps.refl _)
  exact ⟨T9, some (.int (Int32.ofNat len)), _, _, _, X9, by simp, rfl, rfl, (fun h => by cases h), ⟨rfl, B9, p9.from hh0, f9⟩, fun fs hl => c11.trans (X9.ireturnOut hexec hret rfl (Or.inl rfl) (hb hbytes d46) hl)⟩
end Cmp5
namespace Cmp3
def yN : MethodName := ⟨"java/lang/StringUTF16", "compress", "([CII)[B"⟩
abbrev yB : ByteArray := jdk_52_method_16_code
theorem d0 : decode yB 0 = .ok (.iload_n 2, 1) := by decide +kernel
theorem d1 : decode yB 1 = .ok (.newarray .byte, 2) := by decide +kernel
theorem d3 : decode yB 3 = .ok (.astore_n 3, 1) := by decide +kernel
theorem d4 : decode yB 4 = .ok (.aload_n 0, 1) := by decide +kernel
theorem d5 : decode yB 5 = .ok (.iload_n 1, 1) := by decide +kernel
theorem d6 : decode yB 6 = .ok (.aload_n 3, 1) := by decide +kernel
theorem d7 : decode yB 7 = .ok (.iconst 0, 1) := by decide +kernel
theorem d8 : decode yB 8 = .ok (.iload_n 2, 1) := by decide +kernel
theorem d9 : decode yB 9 = .ok (.invokestatic 115, 3) := by decide +kernel
theorem d12 : decode yB 12 = .ok (.istore 4, 2) := by decide +kernel
theorem d14 : decode yB 14 = .ok (.iload 4, 2) := by decide +kernel
theorem d16 : decode yB 16 = .ok (.iload_n 2, 1) := by decide +kernel
theorem d17 : decode yB 17 = .ok (.if_icmp (.eq) 40, 3) := by decide +kernel
theorem d57 : decode yB 57 = .ok (.aload_n 3, 1) := by decide +kernel
theorem d58 : decode yB 58 = .ok (.areturn, 1) := by decide +kernel
def site : List Cond := [.arrayClass .byte, Cmp5.tab] ++ staticW U16 115 Cmp5.yN
def tab : Cond := tabOf yN yB 6 (some (.array .byte)) site
def P (b : Addr) (A : Cell) (o len : Nat) (args : Array Value) (s : State) : Prop := args = #[.ref b, .int (Int32.ofNat o), .int (Int32.ofNat len)] ∧ Ch b A s ∧ o + len ≤ A.slots.size ∧ len ≤ 536870912 ∧ ∀ i, i < len → ¬ 255 < cv A (o + i)
def E (b : Addr) (A : Cell) (o len : Nat) (r : Option Value) (s u : State) : Prop := NewArr .byte "[B" len (fun j => .int (lo8 (cv A (o + j)))) r s u ∧ u.heap.size = s.heap.size + 1
/-- no char of the range above 255: a new byte[] of their low bytes -/
theorem law (l : Launch) (b : Addr) (A : Cell) (o len : Nat) : Law l yN 3 3 1 18 yB 6 (some (.array .byte)) site (P b A o len) (E b A o len) [] 1 len := by
  refine Law.of_walk (plainFor_of_name (by decide +kernel)) (by decide +kernel) (by decide +kernel) (by decide) (fun _ _ h => by rw [h.1]; rfl) (fun _ U U' hal hh h => ⟨h.1, h.2.1.mv hal hh, h.2.2⟩) (fun r U U' V V' h1 hal h2 h => ⟨NewArr.mv r U U' V V' h1 hal h2 h.1, by rw [h1, h2]; exact h.2⟩) ?_
  intro p e s m args below meth c s₁ X0 hexec hbytes hml hret hlk hnm hown hh0 W hP
  obtain ⟨rfl, hA, l1, l2, hp⟩ := hP
  have a31 := hA.1.2.2.2
  have c1 : Steps p.tables e below (s₁.setTop (entryFrame m #[.ref b, .int (Int32.ofNat o), .int (Int32.ofNat len)] 6)) (s₁.setTop (mkF m 0 #[.val (.ref b), .val (.int (Int32.ofNat o)), .val (.int (Int32.ofNat len)), .unset, .unset, .unset] [])) := entry rfl
  have c2 : Steps p.tables e below (s₁.setTop (entryFrame m #[.ref b, .int (Int32.ofNat o), .int (Int32.ofNat len)] 6)) (s₁.setTop (mkF m 1 #[.val (.ref b), .val (.int (Int32.ofNat o)), .val (.int (Int32.ofNat len)), .unset, .unset, .unset] [.int (Int32.ofNat len)])) := c1.trans (by
    refine XS.iloadN X0.here hexec rfl (hb hbytes d0) rfl ?_
    exact Steps.refl _)
  obtain ⟨T3, B3, X3, ba3, bs3, bv3, bh3, bf3, st3⟩ := X0.anew hexec (atype := .byte) (wk W (.arrayClass .byte)) rfl (by show len * 1 ≤ _; omega) (by omega) (g := (mkF m 1 #[.val (.ref b), .val (.int (Int32.ofNat o)), .val (.int (Int32.ofNat len)), .unset, .unset, .unset] [.int (Int32.ofNat len)])) rfl (hb hbytes d1) (rest := []) rfl (Nat.le_refl _) (by show 0 + len ≤ len; omega)
  rw [hh0] at ba3 st3
  have kp3 : XT.Kept s T3 := (XT.Kept.of_eq hh0).push bh3
  have hA3 := hA.keep X3.warmed.alike (kp3 _ _ hA.1.1)
  have hne : b ≠ s.heap.size := hA.1.ne
  have c4 : Steps p.tables e below (s₁.setTop (entryFrame m #[.ref b, .int (Int32.ofNat o), .int (Int32.ofNat len)] 6)) (T3.setTop (mkF m 3 #[.val (.ref b), .val (.int (Int32.ofNat o)), .val (.int (Int32.ofNat len)), .unset, .unset, .unset] [.ref s.heap.size])) := c2.trans (st3 _ (Steps.refl _))
  have c5 : Steps p.tables e below (s₁.setTop (entryFrame m #[.ref b, .int (Int32.ofNat o), .int (Int32.ofNat len)] 6)) (T3.setTop (mkF m 9 #[.val (.ref b), .val (.int (Int32.ofNat o)), .val (.int (Int32.ofNat len)), .val (.ref s.heap.size), .unset, .unset] [.int (Int32.ofNat len), .int 0, .ref s.heap.size, .int (Int32.ofNat o), .ref b])) := c4.trans (by
    refine XS.astoreN X3.here hexec rfl (hb hbytes d3) rfl rfl rfl ?_
    refine XS.aloadN X3.here hexec rfl (hb hbytes d4) rfl rfl ?_
    refine XS.iloadN X3.here hexec rfl (hb hbytes d5) rfl ?_
    refine XS.aloadN X3.here hexec rfl (hb hbytes d6) rfl rfl ?_
    refine iconstV X3.here hexec rfl 0 (hb hbytes d7) (by decide) ?_
    refine XS.iloadN X3.here hexec rfl (hb hbytes d8) rfl ?_
    exact Steps.refl _)
  obtain ⟨v6, T6, X6, E6, g6⟩ := X3.callS hexec (Cmp5.law l b A s.heap.size B3 o 0 len) hown (wks W (staticW U16 115 Cmp5.yN)) (wk W Cmp5.tab) (W := 0) (Nat.le_of_ble_eq_true rfl) (Nat.le_of_ble_eq_true rfl) (Nat.le_refl _) (by show 0 + len + 0 ≤ len; omega) (g := (mkF m 9 #[.val (.ref b), .val (.int (Int32.ofNat o)), .val (.int (Int32.ofNat len)), .val (.ref s.heap.size), .unset, .unset] [.int (Int32.ofNat len), .int (Int32.ofNat 0), .ref s.heap.size, .int (Int32.ofNat o), .ref b])) rfl (by rw [hml]; rfl) c5 (argsL := [.ref b, .int (Int32.ofNat o), .ref s.heap.size, .int (Int32.ofNat 0), .int (Int32.ofNat len)]) (rest := []) rfl rfl (by show 2 * 0 + 0 ≤ _; decide) (hb hbytes d9) (⟨rfl, hA3, ba3, hne, l1, by rw [bs3]; simp, hp⟩)
  obtain ⟨rfl, B6, p6, f6⟩ := E6
  have c7 : Steps p.tables e below (s₁.setTop (entryFrame m #[.ref b, .int (Int32.ofNat o), .int (Int32.ofNat len)] 6)) (T6.setTop (mkF m 12 #[.val (.ref b), .val (.int (Int32.ofNat o)), .val (.int (Int32.ofNat len)), .val (.ref s.heap.size), .unset, .unset] [.int (Int32.ofNat len)])) := g6
  have c8 : Steps p.tables e below (s₁.setTop (entryFrame m #[.ref b, .int (Int32.ofNat o), .int (Int32.ofNat len)] 6)) (T6.setTop (mkF m 58 #[.val (.ref b), .val (.int (Int32.ofNat o)), .val (.int (Int32.ofNat len)), .val (.ref s.heap.size), .val (.int (Int32.ofNat len)), .unset] [.ref s.heap.size])) := c7.trans (by
    refine XS.istore X6.here hexec rfl (hb hbytes d12) rfl rfl ?_
    refine XS.iload X6.here hexec rfl (hb hbytes d14) rfl ?_
    refine XS.iloadN X6.here hexec rfl (hb hbytes d16) rfl ?_
    refine XS.icmpYes X6.here hexec rfl (pc0 := 17) rfl (hb hbytes d17) rfl (ii_eq_t rfl) (by decide) rfl ?_
    refine XS.aloadN X6.here hexec rfl (hb hbytes d57) rfl rfl ?_
    exact Steps.refl _)
  have X8 := X6.wide (L' := []) (cells' := 1) (slots' := len) (fun x hx hlt => by
    simp only [List.nil_append, copyLocs, List.mem_map, List.mem_range] at hx
    obtain ⟨i, -, rfl⟩ := hx
    exact absurd hlt (Nat.lt_irrefl _)) (Nat.le_refl _) (by omega)
  exact ⟨T6, some (.ref s.heap.size), _, _, _, X8, rfl, rfl, rfl, (fun h => by cases h), ⟨⟨rfl, B6, ba3.like (X3.warmed.alike.symm.trans X6.warmed.alike) p6.1 f6.1 f6.2.1 f6.2.2.1, f6.2.1.trans bv3, by rw [X6.warmed.alike.findClass, f6.1]; exact bf3, by rw [f6.2.2.1, bs3]; simp, fun j hj => by rw [f6.2.2.2 j, if_pos (by omega)]; rfl, kp3.put p6 (Nat.le_refl _)⟩, by rw [p6.2.2, bh3, hh0]; simp⟩, fun fs hl => c8.trans (X8.areturnOut hexec rfl hret rfl (hb hbytes d58) hl)⟩
end Cmp3
namespace CodL
def yN : MethodName := ⟨"java/lang/StringUTF16", "coderFromArrayLen", "([BI)B"⟩
abbrev yB : ByteArray := jdk_52_method_15_code
theorem d0 : decode yB 0 = .ok (.iload_n 1, 1) := by decide +kernel
theorem d1 : decode yB 1 = .ok (.aload_n 0, 1) := by decide +kernel
theorem d2 : decode yB 2 = .ok (.arraylength, 1) := by decide +kernel
theorem d3 : decode yB 3 = .ok (.isub, 1) := by decide +kernel
theorem d4 : decode yB 4 = .ok (.bipush 31, 2) := by decide +kernel
theorem d6 : decode yB 6 = .ok (.iushr, 1) := by decide +kernel
theorem d7 : decode yB 7 = .ok (.i2b, 1) := by decide +kernel
theorem d8 : decode yB 8 = .ok (.ireturn, 1) := by decide +kernel
def site : List Cond := []
def tab : Cond := tabOf yN yB 2 (some .byte) site
def P (d : Addr) (B : Cell) (args : Array Value) (s : State) : Prop := args = #[.ref d, .int (Int32.ofNat B.slots.size)] ∧ Arr .byte d B s
def E (r : Option Value) (s u : State) : Prop := XT.PureE (some (.int 0)) r s u
/-- an array as long as the number of chars: LATIN1 -/
theorem law (l : Launch) (d : Addr) (B : Cell) : Law l yN 2 2 0 0 yB 2 (some .byte) site (P d B) E [] 0 0 := by
  refine Law.of_walk (plainFor_of_name (by decide +kernel)) (by decide +kernel) (by decide +kernel) (by decide) (fun _ _ h => by rw [h.1]; rfl) (fun _ U U' hal hh h => ⟨h.1, h.2.mv hal hh⟩) (fun r U U' V V' h1 hal h2 h => XT.PureE.mv r U U' V V' h1 hal h2 h) ?_
  intro p e s m args below meth c s₁ X0 hexec hbytes hml hret hlk hnm hown hh0 W hP
  obtain ⟨rfl, hB⟩ := hP
  have hB0 := hB.mv X0.warmed.alike hh0
  have c1 : Steps p.tables e below (s₁.setTop (entryFrame m #[.ref d, .int (Int32.ofNat B.slots.size)] 2)) (s₁.setTop (mkF m 0 #[.val (.ref d), .val (.int (Int32.ofNat B.slots.size))] [])) := entry rfl
  have c2 : Steps p.tables e below (s₁.setTop (entryFrame m #[.ref d, .int (Int32.ofNat B.slots.size)] 2)) (s₁.setTop (mkF m 2 #[.val (.ref d), .val (.int (Int32.ofNat B.slots.size))] [.ref d, .int (Int32.ofNat B.slots.size)])) := c1.trans (by
    refine XS.iloadN X0.here hexec rfl (hb hbytes d0) rfl ?_
    refine XS.aloadN X0.here hexec rfl (hb hbytes d1) rfl rfl ?_
    exact Steps.refl _)
  have c3 : Steps p.tables e below (s₁.setTop (entryFrame m #[.ref d, .int (Int32.ofNat B.slots.size)] 2)) (s₁.setTop (mkF m 8 #[.val (.ref d), .val (.int (Int32.ofNat B.slots.size))] [.int (lo8 (ushr (Int32.ofNat B.slots.size - Int32.ofNat B.slots.size) 31))])) := c2.trans (by
    refine X0.alen hexec hB0 rfl rfl (hb hbytes d2) ?_
    refine XS.isub X0.here hexec rfl (hb hbytes d3) rfl ?_
    refine bipushV X0.here hexec rfl 31 (hb hbytes d4) (by decide) ?_
    refine iushr X0.here hexec rfl (hb hbytes d6) rfl ?_
    refine i2b X0.here hexec rfl (hb hbytes d7) rfl ?_
    exact Steps.refl _)
  have e0 : lo8 (ushr (Int32.ofNat B.slots.size - Int32.ofNat B.slots.size) 31) = 0 := by rw [Int32.sub_self]; decide
  rw [e0] at c3
  exact ⟨s₁, some (.int 0), _, _, _, X0, rfl, rfl, rfl, (fun h => by cases h), ⟨rfl, hh0⟩, fun fs hl => c3.trans (X0.ireturnOut hexec hret rfl (Or.inr (Or.inr (Or.inl rfl))) (hb hbytes d8) hl)⟩
end CodL
/-- the String at a is Latin-1 over a new byte[] (the heap's one new cell): the low bytes of the len chars of A from o on; every cell but a is kept -/
def Got (a : Addr) (D : Cell) (fV fC : Field) (A : Cell) (o len : Nat) (r : Option Value) (s u : State) : Prop := r = none ∧ ∃ D' V : Cell, Blank "java/lang/String" a D' u ∧ Same D D' [fV.slot, fC.slot] ∧ D'.slots[fV.slot]? = some (.ref s.heap.size) ∧ D'.slots[fC.slot]? = some (.int 0) ∧ Arr .byte s.heap.size V u ∧ V.vm = .none ∧ u.vm.findClass "[B" = some V.cls ∧ V.slots.size = len ∧ (∀ j, j < len → V.slots[j]? = some (.int (lo8 (cv A (o + j))))) ∧ (∀ (y : Addr) (c : Cell), y ≠ a → s.heap[y]? = some c → u.heap[y]? = some c) ∧ u.heap.size = s.heap.size + 1
theorem Got.mv {a : Addr} {D A : Cell} {fV fC : Field} {o len : Nat} : ∀ r (U U' V V' : State), U'.heap = U.heap → V.vm.Alike V'.vm → V'.heap = V.heap → Got a D fV fC A o len r U V → Got a D fV fC A o len r U' V' :=
  fun r U U' V V' h1 hal h2 ⟨e0, D', X, a1, a2, a3, a4, a5, a6, a7, a8, a9, a10, a11⟩ => ⟨e0, D', X, a1.mv hal h2, a2, by rw [h1]; exact a3, a4, by rw [h1]; exact a5.mv hal h2, a6, by rw [hal.findClass]; exact a7, a8, a9, by rw [h1, h2]; exact a10, by rw [h1, h2]; exact a11⟩
namespace New4
def yN : MethodName := ⟨"java/lang/String", "<init>", "([CIILjava/lang/Void;)V"⟩
abbrev yB : ByteArray := jdk_42_method_149_code
theorem d0 : decode yB 0 = .ok (.aload_n 0, 1) := by decide +kernel
theorem d1 : decode yB 1 = .ok (.invokespecial 1, 3) := by decide +kernel
theorem d4 : decode yB 4 = .ok (.iload_n 3, 1) := by decide +kernel
theorem d5 : decode yB 5 = .ok (.ifCond (.ne) 22, 3) := by decide +kernel
theorem d27 : decode yB 27 = .ok (.getstatic 38, 3) := by decide +kernel
theorem d30 : decode yB 30 = .ok (.ifCond (.eq) 28, 3) := by decide +kernel
theorem d33 : decode yB 33 = .ok (.aload_n 1, 1) := by decide +kernel
theorem d34 : decode yB 34 = .ok (.iload_n 2, 1) := by decide +kernel
theorem d35 : decode yB 35 = .ok (.iload_n 3, 1) := by decide +kernel
theorem d36 : decode yB 36 = .ok (.invokestatic 177, 3) := by decide +kernel
theorem d39 : decode yB 39 = .ok (.astore 5, 2) := by decide +kernel
theorem d41 : decode yB 41 = .ok (.aload_n 0, 1) := by decide +kernel
theorem d42 : decode yB 42 = .ok (.aload 5, 2) := by decide +kernel
theorem d44 : decode yB 44 = .ok (.iload_n 3, 1) := by decide +kernel
theorem d45 : decode yB 45 = .ok (.invokestatic 47, 3) := by decide +kernel
theorem d48 : decode yB 48 = .ok (.putfield 15, 3) := by decide +kernel
theorem d51 : decode yB 51 = .ok (.aload_n 0, 1) := by decide +kernel
theorem d52 : decode yB 52 = .ok (.aload 5, 2) := by decide +kernel
theorem d54 : decode yB 54 = .ok (.putfield 9, 3) := by decide +kernel
theorem d57 : decode yB 57 = .ok (.return_, 1) := by decide +kernel
def site : List Cond := [.fieldLink "java/lang/String" 38 "java/lang/String" "COMPACT_STRINGS" "Z", Cmp3.tab, CodL.tab, .laysFinal "java/lang/String" "java/lang/String" "value" "[B", .fieldLink "java/lang/String" 9 "java/lang/String" "value" "[B", .laysFinal "java/lang/String" "java/lang/String" "coder" "B", .fieldLink "java/lang/String" 15 "java/lang/String" "coder" "B"] ++ objW "java/lang/String" 1 ++ staticW "java/lang/String" 177 Cmp3.yN ++ staticW "java/lang/String" 47 CodL.yN
def tab : Cond := tabOf yN yB 6 none site
def P (a : Addr) (D : Cell) (fV fC : Field) (b : Addr) (A : Cell) (z : Int32) (o len : Nat) (args : Array Value) (s : State) : Prop := args = #[.ref a, .ref b, .int (Int32.ofNat o), .int (Int32.ofNat len), .null] ∧ Blank "java/lang/String" a D s ∧ Found "java/lang/String" "value" "[B" fV s ∧ Found "java/lang/String" "coder" "B" fC s ∧ Ch b A s ∧ StaticIs s "java/lang/String" "COMPACT_STRINGS" "Z" (.int z) ∧ ¬ z = 0 ∧ 0 < len ∧ o + len ≤ A.slots.size ∧ len ≤ 536870912 ∧ ∀ i, i < len → ¬ 255 < cv A (o + i)
def E (a : Addr) (D : Cell) (fV fC : Field) (A : Cell) (o len : Nat) (r : Option Value) (s u : State) : Prop := Got a D fV fC A o len r s u
/-- len > 0, no char of the range above 255: a Latin-1 String of their low bytes -/
theorem law (l : Launch) (a : Addr) (D : Cell) (fV fC : Field) (b : Addr) (A : Cell) (z : Int32) (o len : Nat) : Law l yN 5 4 2 35 yB 6 none site (P a D fV fC b A z o len) (E a D fV fC A o len) [⟨a, fC.slot⟩, ⟨a, fV.slot⟩] 1 len := by
  refine Law.of_walk (plainFor_of_name (by decide +kernel)) (by decide +kernel) (by decide +kernel) (by decide) (fun _ _ h => by rw [h.1]; rfl) (fun _ U U' hal hh h => ⟨h.1, h.2.1.mv hal hh, h.2.2.1.al hal, h.2.2.2.1.al hal, h.2.2.2.2.1.mv hal hh, h.2.2.2.2.2.1.there hal hh, h.2.2.2.2.2.2⟩) (fun r U U' V V' h1 hal h2 h => Got.mv r U U' V V' h1 hal h2 h) ?_
  intro p e s m args below meth c s₁ X0 hexec hbytes hml hret hlk hnm hown hh0 W hP
  obtain ⟨rfl, hB, f1, f2, hA, s1, hz, l0, l1, l2, hp⟩ := hP
  have a31 := hA.1.2.2.2
  have c1 : Steps p.tables e below (s₁.setTop (entryFrame m #[.ref a, .ref b, .int (Int32.ofNat o), .int (Int32.ofNat len), .null] 6)) (s₁.setTop (mkF m 0 #[.val (.ref a), .val (.ref b), .val (.int (Int32.ofNat o)), .val (.int (Int32.ofNat len)), .val .null, .unset] [])) := entry rfl
  have c2 : Steps p.tables e below (s₁.setTop (entryFrame m #[.ref a, .ref b, .int (Int32.ofNat o), .int (Int32.ofNat len), .null] 6)) (s₁.setTop (mkF m 1 #[.val (.ref a), .val (.ref b), .val (.int (Int32.ofNat o)), .val (.int (Int32.ofNat len)), .val .null, .unset] [.ref a])) := c1.trans (by
    refine XS.aloadN X0.here hexec rfl (hb hbytes d0) rfl rfl ?_
    exact Steps.refl _)
  obtain ⟨T3, X3, q3, st3⟩ := X0.oinit hexec hown (wks W (objW "java/lang/String" 1)) (g := (mkF m 1 #[.val (.ref a), .val (.ref b), .val (.int (Int32.ofNat o)), .val (.int (Int32.ofNat len)), .val .null, .unset] [.ref a])) rfl (by rw [hml]; rfl) (rest := []) rfl (hb hbytes d1) (W := 0) (by show 2 * 0 + 0 ≤ _; decide) (Nat.le_of_ble_eq_true rfl) (Nat.le_of_ble_eq_true rfl)
  have hh3 := q3.trans hh0
  have c4 : Steps p.tables e below (s₁.setTop (entryFrame m #[.ref a, .ref b, .int (Int32.ofNat o), .int (Int32.ofNat len), .null] 6)) (T3.setTop (mkF m 27 #[.val (.ref a), .val (.ref b), .val (.int (Int32.ofNat o)), .val (.int (Int32.ofNat len)), .val .null, .unset] [])) := (c2.trans (st3 _ (Steps.refl _))).trans (by
    refine XS.iloadN X3.here hexec rfl (hb hbytes d4) rfl ?_
    refine XS.ifYes X3.here hexec rfl (pc0 := 5) rfl (hb hbytes d5) rfl (i0_ne_t (nz32 (by omega) l0)) (by decide) rfl ?_
    exact Steps.refl _)
  obtain ⟨T5, X5, q5, st5⟩ := X3.sget hexec hown (wk W (.fieldLink "java/lang/String" 38 "java/lang/String" "COMPACT_STRINGS" "Z")) s1 (fun _ _ h => by rw [hh3]; exact h) (g := (mkF m 27 #[.val (.ref a), .val (.ref b), .val (.int (Int32.ofNat o)), .val (.int (Int32.ofNat len)), .val .null, .unset] [])) rfl (hb hbytes d27)
  have hh5 := q5.trans hh3
  have c6 : Steps p.tables e below (s₁.setTop (entryFrame m #[.ref a, .ref b, .int (Int32.ofNat o), .int (Int32.ofNat len), .null] 6)) (T5.setTop (mkF m 30 #[.val (.ref a), .val (.ref b), .val (.int (Int32.ofNat o)), .val (.int (Int32.ofNat len)), .val .null, .unset] [.int z])) := c4.trans (st5 _ (Steps.refl _))
  have c7 : Steps p.tables e below (s₁.setTop (entryFrame m #[.ref a, .ref b, .int (Int32.ofNat o), .int (Int32.ofNat len), .null] 6)) (T5.setTop (mkF m 36 #[.val (.ref a), .val (.ref b), .val (.int (Int32.ofNat o)), .val (.int (Int32.ofNat len)), .val .null, .unset] [.int (Int32.ofNat len), .int (Int32.ofNat o), .ref b])) := c6.trans (by
    refine XS.ifNo X5.here hexec rfl (hb hbytes d30) rfl (i0_eq_f hz) ?_
    refine XS.aloadN X5.here hexec rfl (hb hbytes d33) rfl rfl ?_
    refine XS.iloadN X5.here hexec rfl (hb hbytes d34) rfl ?_
    refine XS.iloadN X5.here hexec rfl (hb hbytes d35) rfl ?_
    exact Steps.refl _)
  obtain ⟨v8, T8, X8, E8, g8⟩ := X5.callS hexec (Cmp3.law l b A o len) hown (wks W (staticW "java/lang/String" 177 Cmp3.yN)) (wk W Cmp3.tab) (W := 0) (Nat.le_of_ble_eq_true rfl) (Nat.le_of_ble_eq_true rfl) (Nat.le_refl _) (by show 0 + len ≤ len; omega) (g := (mkF m 36 #[.val (.ref a), .val (.ref b), .val (.int (Int32.ofNat o)), .val (.int (Int32.ofNat len)), .val .null, .unset] [.int (Int32.ofNat len), .int (Int32.ofNat o), .ref b])) rfl (by rw [hml]; rfl) c7 (argsL := [.ref b, .int (Int32.ofNat o), .int (Int32.ofNat len)]) (rest := []) rfl rfl (by show 2 * 0 + 0 ≤ _; decide) (hb hbytes d36) (⟨rfl, hA.mv X5.warmed.alike hh5, l1, l2, hp⟩)
  obtain ⟨e8, z8⟩ := E8
  obtain ⟨rfl, N, n1, n2, n3, n4, n5, n6⟩ := NewArr.mv _ T5 s _ _ hh5.symm (Vm.Alike.refl _) rfl e8
  rw [hh5] at z8
  have hB1 := hB.keep X8.warmed.alike (n6 _ _ hB.1)
  have hne : s.heap.size ≠ a := (Nat.ne_of_lt (Array.getElem?_eq_some_iff.mp hB.1).1).symm
  have c9 : Steps p.tables e below (s₁.setTop (entryFrame m #[.ref a, .ref b, .int (Int32.ofNat o), .int (Int32.ofNat len), .null] 6)) (T8.setTop (mkF m 39 #[.val (.ref a), .val (.ref b), .val (.int (Int32.ofNat o)), .val (.int (Int32.ofNat len)), .val .null, .unset] [.ref s.heap.size])) := g8
  have c10 : Steps p.tables e below (s₁.setTop (entryFrame m #[.ref a, .ref b, .int (Int32.ofNat o), .int (Int32.ofNat len), .null] 6)) (T8.setTop (mkF m 45 #[.val (.ref a), .val (.ref b), .val (.int (Int32.ofNat o)), .val (.int (Int32.ofNat len)), .val .null, .val (.ref s.heap.size)] [.int (Int32.ofNat N.slots.size), .ref s.heap.size, .ref a])) := by
    have hc : Steps p.tables e below (s₁.setTop (entryFrame m #[.ref a, .ref b, .int (Int32.ofNat o), .int (Int32.ofNat len), .null] 6)) (T8.setTop (mkF m 45 #[.val (.ref a), .val (.ref b), .val (.int (Int32.ofNat o)), .val (.int (Int32.ofNat len)), .val .null, .val (.ref s.heap.size)] [.int (Int32.ofNat len), .ref s.heap.size, .ref a])) := c9.trans (by
      refine XS.astore X8.here hexec rfl (hb hbytes d39) rfl rfl rfl ?_
      refine XS.aloadN X8.here hexec rfl (hb hbytes d41) rfl rfl ?_
      refine XS.aload X8.here hexec rfl (hb hbytes d42) rfl rfl ?_
      refine XS.iloadN X8.here hexec rfl (hb hbytes d44) rfl ?_
      exact Steps.refl _)
    rw [n4]; exact hc
  obtain ⟨v11, T11, X11, E11, g11⟩ := X8.callS hexec (CodL.law l s.heap.size N) hown (wks W (staticW "java/lang/String" 47 CodL.yN)) (wk W CodL.tab) (W := 1) (Nat.le_of_ble_eq_true rfl) (Nat.le_of_ble_eq_true rfl) (Nat.le_refl _) (by show 0 + len + 0 ≤ len; omega) (g := (mkF m 45 #[.val (.ref a), .val (.ref b), .val (.int (Int32.ofNat o)), .val (.int (Int32.ofNat len)), .val .null, .val (.ref s.heap.size)] [.int (Int32.ofNat N.slots.size), .ref s.heap.size, .ref a])) rfl (by rw [hml]; rfl) c10 (argsL := [.ref s.heap.size, .int (Int32.ofNat N.slots.size)]) (rest := [.ref a]) rfl rfl (by show 2 * 0 + (1 + 0) ≤ _; decide) (hb hbytes d45) (⟨rfl, n1⟩)
  obtain ⟨rfl, q11⟩ := E11
  have hB11 := hB1.mv (X8.warmed.alike.symm.trans X11.warmed.alike) q11
  have c12 : Steps p.tables e below (s₁.setTop (entryFrame m #[.ref a, .ref b, .int (Int32.ofNat o), .int (Int32.ofNat len), .null] 6)) (T11.setTop (mkF m 48 #[.val (.ref a), .val (.ref b), .val (.int (Int32.ofNat o)), .val (.int (Int32.ofNat len)), .val .null, .val (.ref s.heap.size)] [.int 0, .ref a])) := g11
  obtain ⟨T13, X13, p13, bl13, sl13, st13⟩ := X11.finit hexec hown (wk W (.fieldLink "java/lang/String" 15 "java/lang/String" "coder" "B")) (Or.inr ⟨_, (wk W (.laysFinal "java/lang/String" "java/lang/String" "coder" "B"))⟩) (Or.inl ⟨rfl, hnm⟩) f2 (Or.inl rfl) hB11 (t := .byte) (by decide +kernel) rfl (g := (mkF m 48 #[.val (.ref a), .val (.ref b), .val (.int (Int32.ofNat o)), .val (.int (Int32.ofNat len)), .val .null, .val (.ref s.heap.size)] [.int 0, .ref a])) rfl (rest := []) rfl (hb hbytes d48)
  have c14 : Steps p.tables e below (s₁.setTop (entryFrame m #[.ref a, .ref b, .int (Int32.ofNat o), .int (Int32.ofNat len), .null] 6)) (T13.setTop (mkF m 54 #[.val (.ref a), .val (.ref b), .val (.int (Int32.ofNat o)), .val (.int (Int32.ofNat len)), .val .null, .val (.ref s.heap.size)] [.ref s.heap.size, .ref a])) := (c12.trans (st13 _ (Steps.refl _))).trans (by
    refine XS.aloadN X13.here hexec rfl (hb hbytes d51) rfl rfl ?_
    refine XS.aload X13.here hexec rfl (hb hbytes d52) rfl rfl ?_
    exact Steps.refl _)
  obtain ⟨T15, X15, p15, bl15, sl15, st15⟩ := X13.finit hexec hown (wk W (.fieldLink "java/lang/String" 9 "java/lang/String" "value" "[B")) (Or.inr ⟨_, (wk W (.laysFinal "java/lang/String" "java/lang/String" "value" "[B"))⟩) (Or.inl ⟨rfl, hnm⟩) f1 (Or.inl rfl) bl13 (t := (.array .byte)) (by decide +kernel) rfl (g := (mkF m 54 #[.val (.ref a), .val (.ref b), .val (.int (Int32.ofNat o)), .val (.int (Int32.ofNat len)), .val .null, .val (.ref s.heap.size)] [.ref s.heap.size, .ref a])) rfl (rest := []) rfl (hb hbytes d54)
  have c16 : Steps p.tables e below (s₁.setTop (entryFrame m #[.ref a, .ref b, .int (Int32.ofNat o), .int (Int32.ofNat len), .null] 6)) (T15.setTop (mkF m 57 #[.val (.ref a), .val (.ref b), .val (.int (Int32.ofNat o)), .val (.int (Int32.ofNat len)), .val .null, .val (.ref s.heap.size)] [])) := c14.trans (st15 _ (Steps.refl _))
  have ap := apart (Or.inr ⟨_, (wk W (.laysFinal "java/lang/String" "java/lang/String" "value" "[B"))⟩) (Or.inr ⟨_, (wk W (.laysFinal "java/lang/String" "java/lang/String" "coder" "B"))⟩) f1 f2 (t₁ := .array .byte) (t₂ := .byte) (by decide +kernel) (by decide +kernel) (by decide)
  have al := X8.warmed.alike.symm.trans X15.warmed.alike
  have n7 : T11.heap[s.heap.size]? = some N := by rw [q11]; exact n1.1
  exact ⟨T15, none, _, _, _, X15, by simp, rfl, by omega, (fun _ => rfl), ⟨rfl, _, N, bl15, ((Same.refl D _).set _ (by simp)).set _ (by simp), sl15, (Cell.slots_setSlot_ne _ ap).trans sl13, n1.keep al (p15.other hne (p13.other hne n7)), n2, by rw [al.findClass]; exact n3, n4, n5, fun y c h1 h2 => p15.other h1 (p13.other h1 (by rw [q11]; exact n6 y c h2)), by rw [p15.2.2, p13.2.2, q11]; exact z8⟩, fun fs hl => c16.trans (X15.returnOut hexec hret (hb hbytes d57) hl)⟩
end New4
namespace New1
def yN : MethodName := ⟨"java/lang/String", "<init>", "([C)V"⟩
abbrev yB : ByteArray := jdk_42_method_3_code
theorem d0 : decode yB 0 = .ok (.aload_n 0, 1) := by decide +kernel
theorem d1 : decode yB 1 = .ok (.aload_n 1, 1) := by decide +kernel
theorem d2 : decode yB 2 = .ok (.iconst 0, 1) := by decide +kernel
theorem d3 : decode yB 3 = .ok (.aload_n 1, 1) := by decide +kernel
theorem d4 : decode yB 4 = .ok (.arraylength, 1) := by decide +kernel
theorem d5 : decode yB 5 = .ok (.aconst_null, 1) := by decide +kernel
theorem d6 : decode yB 6 = .ok (.invokespecial 27, 3) := by decide +kernel
theorem d9 : decode yB 9 = .ok (.return_, 1) := by decide +kernel
def site : List Cond := [New4.tab] ++ initW "java/lang/String" 27 New4.yN
def tab : Cond := tabOf yN yB 2 none site
def P (a : Addr) (D : Cell) (fV fC : Field) (b : Addr) (A : Cell) (z : Int32) (args : Array Value) (s : State) : Prop := args = #[.ref a, .ref b] ∧ Blank "java/lang/String" a D s ∧ Found "java/lang/String" "value" "[B" fV s ∧ Found "java/lang/String" "coder" "B" fC s ∧ Ch b A s ∧ StaticIs s "java/lang/String" "COMPACT_STRINGS" "Z" (.int z) ∧ ¬ z = 0 ∧ 0 < A.slots.size ∧ A.slots.size ≤ 536870912 ∧ ∀ i, i < A.slots.size → ¬ 255 < cv A i
def E (a : Addr) (D : Cell) (fV fC : Field) (A : Cell) (r : Option Value) (s u : State) : Prop := Got a D fV fC A 0 A.slots.size r s u
/-- new String(chars), not empty, no char above 255: a Latin-1 String of their low bytes -/
theorem law (l : Launch) (a : Addr) (D : Cell) (fV fC : Field) (b : Addr) (A : Cell) (z : Int32) : Law l yN 2 1 3 52 yB 2 none site (P a D fV fC b A z) (E a D fV fC A) [⟨a, fC.slot⟩, ⟨a, fV.slot⟩] 1 A.slots.size := by
  refine Law.of_walk (plainFor_of_name (by decide +kernel)) (by decide +kernel) (by decide +kernel) (by decide) (fun _ _ h => by rw [h.1]; rfl) (fun _ U U' hal hh h => ⟨h.1, h.2.1.mv hal hh, h.2.2.1.al hal, h.2.2.2.1.al hal, h.2.2.2.2.1.mv hal hh, h.2.2.2.2.2.1.there hal hh, h.2.2.2.2.2.2⟩) (fun r U U' V V' h1 hal h2 h => Got.mv r U U' V V' h1 hal h2 h) ?_
  intro p e s m args below meth c s₁ X0 hexec hbytes hml hret hlk hnm hown hh0 W hP
  obtain ⟨rfl, hB, f1, f2, hA, s1, hz, l0, l2, hp⟩ := hP
  have c1 : Steps p.tables e below (s₁.setTop (entryFrame m #[.ref a, .ref b] 2)) (s₁.setTop (mkF m 0 #[.val (.ref a), .val (.ref b)] [])) := entry rfl
  have c2 : Steps p.tables e below (s₁.setTop (entryFrame m #[.ref a, .ref b] 2)) (s₁.setTop (mkF m 6 #[.val (.ref a), .val (.ref b)] [.null, .int (Int32.ofNat A.slots.size), .int 0, .ref b, .ref a])) := c1.trans (by
    refine XS.aloadN X0.here hexec rfl (hb hbytes d0) rfl rfl ?_
    refine XS.aloadN X0.here hexec rfl (hb hbytes d1) rfl rfl ?_
    refine iconstV X0.here hexec rfl 0 (hb hbytes d2) (by decide) ?_
    refine XS.aloadN X0.here hexec rfl (hb hbytes d3) rfl rfl ?_
    refine X0.alen hexec (hA.1.mv X0.warmed.alike hh0) rfl rfl (hb hbytes d4) ?_
    refine XS.aconstNull X0.here hexec rfl (hb hbytes d5) ?_
    exact Steps.refl _)
  obtain ⟨v3, T3, X3, E3, g3⟩ := X0.callN hexec (New4.law l a D fV fC b A z 0 A.slots.size) rfl hown (wks W (initW "java/lang/String" 27 New4.yN)) (W New4.tab (by simp only [site, List.mem_cons, List.mem_append, true_or, or_true])) (W := 0) (Nat.le_of_ble_eq_true rfl) (Nat.le_of_ble_eq_true rfl) (Nat.le_refl _) (by show 0 + A.slots.size ≤ A.slots.size; omega) (g := (mkF m 6 #[.val (.ref a), .val (.ref b)] [.null, .int (Int32.ofNat A.slots.size), .int (Int32.ofNat 0), .ref b, .ref a])) rfl (by rw [hml]; rfl) c2 (argsL := [.ref b, .int (Int32.ofNat 0), .int (Int32.ofNat A.slots.size), .null]) (rest := []) rfl rfl (by show 2 * 0 + 0 ≤ _; decide) (hb hbytes d6) (⟨rfl, hB.mv X0.warmed.alike hh0, f1.al X0.warmed.alike, f2.al X0.warmed.alike, hA.mv X0.warmed.alike hh0, s1.there X0.warmed.alike hh0, hz, l0, by omega, l2, fun i hi => by rw [Nat.zero_add]; exact hp i hi⟩)
  have e0 := Got.mv _ s₁ s _ _ hh0.symm (Vm.Alike.refl _) rfl E3
  obtain rfl := e0.1
  have c4 : Steps p.tables e below (s₁.setTop (entryFrame m #[.ref a, .ref b] 2)) (T3.setTop (mkF m 9 #[.val (.ref a), .val (.ref b)] [])) := g3
  exact ⟨T3, none, _, _, _, X3, by simp, rfl, by omega, (fun _ => rfl), e0, fun fs hl => c4.trans (X3.returnOut hexec hret (hb hbytes d9) hl)⟩
theorem pays {l : Launch} {R : Room} {p : Program} {e : Env} {below : List Frame} {s : State} {sargs : Array Value} {len W : Nat} (a : Addr) (D : Cell) (fV fC : Field) (b : Addr) (A : Cell) (z : Int32) (htab : tab.before sargs s = true) (hfr : 4 ≤ R.frames) (hlo : W + 65 ≤ R.locals) :
    Back l R p e below s sargs yN len W (fun A₁ a₁ => A₁.cells + 1 ≤ R.cells ∧ A₁.slots + A.slots.size ≤ R.slots ∧ P a D fV fC b A z a₁ A₁.U) (fun A₁ _ v₁ B₁ => E a D fV fC A v₁ A₁.U B₁.U ∧ B₁.locs = A₁.locs ++ [⟨a, fC.slot⟩, ⟨a, fV.slot⟩] ∧ B₁.cells = A₁.cells + 1 ∧ B₁.slots = A₁.slots + A.slots.size) :=
  (law l a D fV fC b A z).pays htab hfr (by omega)
end New1
/-- the byte, read back as charAt reads it, is the char -/
theorem lo8_mask {x : Int32} (h0 : ¬ x < 0) (h1 : ¬ 255 < x) : lo8 x &&& 255 = x := by
  have t : ∀ k : Fin 256, lo8 (Int32.ofNat k.val) &&& 255 = Int32.ofNat k.val := by decide +kernel
  rw [Int32.lt_iff_toInt_lt] at h0 h1
  have e0 : (0 : Int32).toInt = 0 := rfl
  have e1 : (255 : Int32).toInt = 255 := rfl
  obtain ⟨k, hk⟩ : ∃ k : Nat, x.toInt = k := ⟨x.toInt.toNat, by omega⟩
  have hx : x = Int32.ofNat k := Int32.toInt_inj.mp (by rw [hk, Int32.toInt_ofNat_small (by omega)])
  rw [hx]
  exact t ⟨k, by omega⟩
end StrChars
namespace StrChars.Road
open Jvm Sem ClassFile Op Lib Jvm.Stand Jvm.Free Jvm.Free.XT
open Jvm.Lib.Cold (StaticIs)
abbrev ST : String := "java/lang/String"
/-- every table word that New1's law asks, flat -/
abbrev words : List Jvm.Cond := [.code New1.yN New1.yB 2 none, .initialized ST, .methodLink ST 27 New4.yN, .instanceMethod New4.yN,
  .code New4.yN New4.yB 6 none, .fieldLink ST 38 ST "COMPACT_STRINGS" "Z", .laysFinal ST ST "value" "[B", .fieldLink ST 9 ST "value" "[B", .laysFinal ST ST "coder" "B", .fieldLink ST 15 ST "coder" "B",
  .methodLink ST 1 Lib.objectInit, .instanceMethod Lib.objectInit, .code Lib.objectInit ⟨#[0xb1]⟩ 1 none, .methodLink ST 177 Cmp3.yN, .static Cmp3.yN, .methodLink ST 47 CodL.yN, .static CodL.yN,
  .code Cmp3.yN Cmp3.yB 6 (some (.array .byte)), .initialized U16, .arrayClass .byte, .methodLink U16 115 Cmp5.yN, .static Cmp5.yN, .code Cmp5.yN Cmp5.yB 7 (some .int), .code CodL.yN CodL.yB 2 (some .byte)]
theorem tab_of {a : Array Value} {s : State} (h : ∀ w ∈ words, w.before a s = true) : New1.tab.before a s = true := by
  have h5 : Cmp5.tab.before a s = true := unparts (wk h (.code Cmp5.yN Cmp5.yB 7 (some .int))) (wks h (.initialized Cmp5.yN.cls :: Cmp5.site))
  have hc : CodL.tab.before a s = true := unparts (wk h (.code CodL.yN CodL.yB 2 (some .byte))) (wks h (.initialized CodL.yN.cls :: CodL.site))
  have q5 : ∀ w ∈ Cmp5.tab :: words, w.before a s = true := fun w hw => (List.mem_cons.mp hw).elim (fun e => e ▸ h5) (h w)
  have h3 : Cmp3.tab.before a s = true := unparts (wk q5 (.code Cmp3.yN Cmp3.yB 6 (some (.array .byte)))) (wks q5 (.initialized Cmp3.yN.cls :: Cmp3.site))
  have q3 : ∀ w ∈ Cmp3.tab :: CodL.tab :: words, w.before a s = true := fun w hw => (List.mem_cons.mp hw).elim (fun e => e ▸ h3) fun hw => (List.mem_cons.mp hw).elim (fun e => e ▸ hc) (h w)
  have h4 : New4.tab.before a s = true := unparts (wk q3 (.code New4.yN New4.yB 6 none)) (wks q3 (.initialized New4.yN.cls :: New4.site))
  have q4 : ∀ w ∈ New4.tab :: words, w.before a s = true := fun w hw => (List.mem_cons.mp hw).elim (fun e => e ▸ h4) (h w)
  exact unparts (wk q4 (.code New1.yN New1.yB 2 none)) (wks q4 (.initialized New1.yN.cls :: New1.site))
/-- the words ride from the start Z to the walk's own state -/
theorem moved {Z s : State} {a0 args : Array Value} (hZ : Z.Warmed39 s.vm) (hw : ∀ d ∈ words, d.before a0 Z = true) : ∀ d ∈ words, d.before args s = true := fun d hd => by
  have q := hw d hd
  have t : ∀ d ∈ words, d = .arrayClass .byte ∨ (d.onTables && d.keepsFace) = true := by decide +kernel
  rcases t d hd with rfl | t
  · exact RoadKit.mvA hZ q
  · exact RoadKit.mv hZ q t
/-- WHAT COMES BACK, over the tables of the start Z: h the heap at the call, h' behind it -/
def Q (Z : State) (x : Addr) (A : Cell) (h : Heap) (v : Option Value) (h' : Heap) (L : List Loc) : Prop := v = none ∧ (∀ y ∈ L, y.base = x) ∧ RoadKit.Keep h h' [x] ∧ h'.size = h.size + 1 ∧ RoadKit.Exa Z h' x ST ∧ RoadKit.Fld Z h' x ST "value" "[B" (.ref h.size) ∧ RoadKit.Fld Z h' x ST "coder" "B" (.int 0) ∧
  (∃ V : Cell, RoadKit.Arr Z h' h.size V .byte ∧ V.vm = .none ∧ Z.vm.findClass "[B" = some V.cls ∧ V.slots.size = A.slots.size ∧ ∀ j, j < A.slots.size → V.slots[j]? = some (.int (lo8 (cv A j)))) ∧
  ∀ (O n d : String) (w : Value), RoadKit.Fld Z h x O n d w → RoadKit.slotOf Z O n d ≠ RoadKit.slotOf Z ST "value" "[B" → RoadKit.slotOf Z O n d ≠ RoadKit.slotOf Z ST "coder" "B" → RoadKit.Fld Z h' x O n d w
/-- **new String(chars) AT A CALL, IN THE ROAD'S FORM**: for specialBack behind newO: x the fresh String, b the char[] with the cell A -/
theorem back {p : Program} {l : Launch} {e : Env} {R : Room} {s : State} {args : Array Value} {below : List Frame} {len W : Nat} {Z : State} {a0 : Array Value} {h : Heap} (hZ : Z.Warmed39 s.vm) (hw : ∀ d ∈ words, d.before a0 Z = true) {kI : Nat} (wi : (Jvm.Cond.instantiable ST kI).before a0 Z = true)
    {x b : Addr} {A : Cell} {z : Int32} {v0 c0 : Value} (E : RoadKit.Exa Z h x ST) (V : RoadKit.Fld Z h x ST "value" "[B" v0) (C : RoadKit.Fld Z h x ST "coder" "B" c0) (K : RoadKit.Arr Z h b A .char) (hty : Typed .char A) (S : RoadKit.Sta Z h ST "COMPACT_STRINGS" "Z" (.int z)) (hz : ¬ z = 0)
    (l0 : 0 < A.slots.size) (l2 : A.slots.size ≤ 536870912) (hp : ∀ i, i < A.slots.size → ¬ 255 < cv A i) (hfr : 4 ≤ R.frames) (hlo : W + 65 ≤ R.locals) :
    Back l R p e below s args New1.yN len W (fun P a => a = #[.ref x, .ref b] ∧ P.U.heap = h ∧ P.cells + 1 ≤ R.cells ∧ P.slots + A.slots.size ≤ R.slots)
      (fun P _ v B => ∃ L, Q Z x A h v B.U.heap L ∧ B.locs = P.locs ++ L ∧ B.cells = P.cells + 1 ∧ B.slots = P.slots + A.slots.size) := by
  intro m meth c P g ig mk a X hg hsize hdg hW hn hp'
  obtain ⟨rfl, rfl, r1, r2⟩ := hp'
  have al : Z.vm.Alike P.U.vm := hZ.alike.trans X.warmed.alike
  obtain ⟨D, cfV, kV, iV, fV, hD, gV, stV, knV, obV, asV, slV⟩ := id V
  obtain ⟨D', cfC, kC, iC, fC, hD', gC, stC, -, -, asC, slC⟩ := id C
  cases hD.symm.trans hD'
  obtain ⟨D2, kD, e1, e2, e3, e4, e5⟩ := id E
  cases hD.symm.trans e1
  obtain ⟨c2, k2, i1, i2, i3, -⟩ := Cond.instantiable_spec wi
  cases e2.symm.trans i1
  cases e3.symm.trans i2
  obtain ⟨kU, u1, u2⟩ := al.2.2 _ _ e3
  have hB : Blank ST x D P.U := ⟨hD, ⟨knV, fun q hq => by rw [hq] at obV; cases obV⟩, by rw [al.findClass]; exact e2, kU, u1, by rw [u2]; exact i3, by rw [u2]; exact e5 i3⟩
  have F1 : Found ST "value" "[B" fV P.U := ⟨SBG.found_only al ⟨cfV, kV, iV, gV⟩, stV⟩
  have F2 : Found ST "coder" "B" fC P.U := ⟨SBG.found_only al ⟨cfC, kC, iC, gC⟩, stC⟩
  have hA : Ch b A P.U := ⟨⟨K.1, State.isArrayOf_alike al K.2.1, K.2.2, by omega⟩, hty⟩
  have hS : StaticIs P.U ST "COMPACT_STRINGS" "Z" (.int z) := by
    obtain ⟨cfS, iS, kS, fS, st, cS, t1, t2, t3, t4, t5, t6, t7⟩ := S
    exact StaticIs.there (s := { Z with heap := P.U.heap }) ⟨cfS, iS, kS, fS, st, cS, t1, t2, t3, t4, t5, (fun q => by rw [q] at t6; cases t6), t7⟩ al rfl
  obtain ⟨v, B, X', ⟨⟨hv, E', V', q1, q2, q3, q4, q5, q6, q7, q8, q9, q10, q11⟩, hl, hc, hs⟩, st⟩ := New1.pays x D fV fC b A z (tab_of (moved hZ hw)) hfr hlo m meth c P g ig mk _ X hg hsize hdg hW hn ⟨r1, r2, rfl, hB, F1, F2, hA, hS, hz, l0, l2, hp⟩
  have al' : Z.vm.Alike B.U.vm := hZ.alike.trans X'.warmed.alike
  have hsz : E'.slots.size = D.slots.size := by
    obtain ⟨-, -, -, kB, w1, w2, w3⟩ := q1
    obtain ⟨kB', y1, y2⟩ := al'.2.2 _ _ e3
    rw [q2.2.1] at w1
    cases w1.symm.trans y1
    rw [w3, e5 i3, y2]
  refine ⟨v, B, X', ⟨_, ⟨hv, ?_, ⟨by omega, fun y cy hy hn' => q10 y cy (by simpa using hn') hy, fun y cy hy => ?_⟩, q11, ⟨E', _, q1.1, by rw [q2.2.1]; exact e2, by rw [q2.2.1]; exact e3, by rw [q2.1]; exact obV, fun _ => by rw [hsz]; exact e5 i3⟩,
    ⟨E', cfV, kV, iV, fV, q1.1, gV, stV, by rw [q2.1]; exact knV, by rw [q2.1]; exact obV, by rw [q2.2.1]; exact asV, q3⟩, ⟨E', cfC, kC, iC, fC, q1.1, gC, stC, by rw [q2.1]; exact knV, by rw [q2.1]; exact obV, by rw [q2.2.1]; exact asC, q4⟩,
    ⟨V', ⟨q5.1, State.isArrayOf_alike al'.symm q5.2.1, q5.2.2.1⟩, q6, by rw [← al'.findClass]; exact q7, q8, fun j hj => by have := q9 j hj; rwa [Nat.zero_add] at this⟩, fun O n d w F n1 n2 => ?_⟩, hl, hc, hs⟩, st⟩
  · intro y hy
    simp only [List.mem_cons, List.not_mem_nil, or_false] at hy
    rcases hy with rfl | rfl <;> rfl
  · by_cases q : y = x
    · subst q
      cases hD.symm.trans hy
      exact ⟨E', q1.1, q2.2.1, q2.1, hsz⟩
    · exact ⟨cy, q10 y cy q hy, rfl, rfl, rfl⟩
  · obtain ⟨D3, cf, k, i, f, g1, g2, g3, g4, g5, g6, g7⟩ := F
    cases hD.symm.trans g1
    simp only [RoadKit.slotOf, g2, gV, gC, Option.map_some, Option.getD_some] at n1 n2
    exact ⟨E', cf, k, i, f, q1.1, g2, g3, by rw [q2.1]; exact g4, by rw [q2.1]; exact g5, by rw [q2.2.1]; exact g6, by rw [q2.2.2 f.slot (by simp [n1, n2])]; exact g7⟩
end StrChars.Road
namespace StrChars.Road
open Jvm Sem ClassFile Op Lib Jvm.Stand Jvm.Free Jvm.Free.XT
/-- WHAT COMES BACK, the byte[] as a list of values -/
def QA (Z : State) (x : Addr) (zn : Int32) (cs : List Int32) (h : Heap) (v : Option Value) (h' : Heap) (L : List Loc) : Prop := v = none ∧ (∀ y ∈ L, y.base = x) ∧ RoadKit.Keep h h' [x] ∧ h'.size = h.size + 1 ∧ RoadKit.Exa Z h' x ST ∧ RoadKit.Fld Z h' x ST "value" "[B" (.ref h.size) ∧ RoadKit.Fld Z h' x ST "coder" "B" (.int 0) ∧
  (∃ kb, Z.vm.findClass "[B" = some kb ∧ RoadKit.Arv Z h' h.size kb .byte zn (cs.map fun c => .int (lo8 c)) (.int 0)) ∧
  ∀ (O n d : String) (w : Value), RoadKit.Fld Z h x O n d w → RoadKit.slotOf Z O n d ≠ RoadKit.slotOf Z ST "value" "[B" → RoadKit.slotOf Z O n d ≠ RoadKit.slotOf Z ST "coder" "B" → RoadKit.Fld Z h' x O n d w
/-- **new String(chars) AT A CALL, THE ARRAYS AS LISTS**: the char[] at b holds cs, not empty, no char above 255 -/
theorem backArv {p : Program} {l : Launch} {e : Env} {R : Room} {s : State} {args : Array Value} {below : List Frame} {len W : Nat} {Z : State} {a0 : Array Value} {h : Heap} (hZ : Z.Warmed39 s.vm) (hw : ∀ d ∈ words, d.before a0 Z = true) {kI : Nat} (wi : (Jvm.Cond.instantiable ST kI).before a0 Z = true)
    {x b : Addr} {k : ClassId} {zn z : Int32} {cs : List Int32} {dv v0 c0 : Value} (E : RoadKit.Exa Z h x ST) (V : RoadKit.Fld Z h x ST "value" "[B" v0) (C : RoadKit.Fld Z h x ST "coder" "B" c0) (K : RoadKit.Arv Z h b k .char zn (cs.map Value.int) dv) (S : RoadKit.Sta Z h ST "COMPACT_STRINGS" "Z" (.int z)) (hz : ¬ z = 0)
    (hlen : zn.toNatClampNeg = cs.length) (h0 : 0 < cs.length) (hbig : cs.length ≤ 536870912) (hall : ∀ c ∈ cs, ¬ 255 < c) (hfr : 4 ≤ R.frames) (hlo : W + 65 ≤ R.locals) :
    Back l R p e below s args New1.yN len W (fun P a => a = #[.ref x, .ref b] ∧ P.U.heap = h ∧ P.cells + 1 ≤ R.cells ∧ P.slots + cs.length ≤ R.slots)
      (fun P _ v B => ∃ L, QA Z x zn cs h v B.U.heap L ∧ B.locs = P.locs ++ L ∧ B.cells = P.cells + 1 ∧ B.slots = P.slots + cs.length) := by
  obtain ⟨A, K1, K2, K3, K4, K5, K6⟩ := K
  have e : A.slots.size = cs.length := K3.trans hlen
  have hat : ∀ (i : Nat) (hi : i < cs.length), A.slots[i]? = some (.int cs[i]) := fun i hi => by rw [K5 i (by omega)]; simp [List.getD_eq_getElem?_getD, hi]
  have hcv : ∀ (i : Nat) (hi : i < cs.length), cv A i = cs[i] := fun i hi => by unfold cv; rw [hat i hi]
  have hty : Typed .char A := fun i v hv => by
    have hi : i < A.slots.size := (Array.getElem?_eq_some_iff.mp hv).1
    have q := K5 i hi
    rw [hv] at q
    rw [Option.some.inj q]
    exact K6 i hi
  refine Back.mono (back hZ hw wi E V C K1 hty S hz (by omega) (by omega) (fun i hi => by rw [hcv i (by omega)]; exact hall _ (List.getElem_mem _)) hfr hlo) (fun P a hp => ⟨hp.1, hp.2.1, hp.2.2.1, by rw [e]; exact hp.2.2.2⟩) (fun P a v B hp hq => ?_)
  obtain ⟨L, ⟨q1, q2, q3, q4, q5, q6, q7, ⟨V', v1, v2, v3, v4, v5⟩, q9⟩, hl, hc, hs⟩ := hq
  refine ⟨L, ⟨q1, q2, q3, q4, q5, q6, q7, ⟨V'.cls, v3, V', v1, rfl, by rw [v4, e, hlen], K4, fun i hi => ?_, fun i hi => ?_⟩, q9⟩, hl, hc, by rw [hs, e]⟩
  · have hi' : i < cs.length := by omega
    rw [v5 i (by omega), hcv i hi']; simp [List.getD_eq_getElem?_getD, hi']
  · have hi' : i < cs.length := by omega
    simp only [List.getD_eq_getElem?_getD, List.getElem?_map, List.getElem?_eq_getElem hi', Option.map_some, Option.getD_some]
    exact fits_lo8 _
end StrChars.Road
namespace StrChars.Road
open Jvm Sem ClassFile Op Lib Jvm.Stand Jvm.Free Jvm.Free.XT
/-- WHAT COMES BACK, in the writer's own shape -/
def QV (Z : State) (x : Addr) (N : Int32) (bs : List Int32) (h : Heap) (n0 : Nat) (v : Option Value) (h' : Heap) (L : List Loc) : Prop := v = none ∧ RoadKit.Fr n0 L ∧ RoadKit.Keep h h' [x] ∧ RoadKit.Exa Z h' x ST ∧ RoadKit.Fld Z h' x ST "coder" "B" (.int 0) ∧
  ∃ (t : Addr) (kb : ClassId), n0 ≤ t ∧ h.size ≤ t ∧ ¬ t = x ∧ RoadKit.Fld Z h' x ST "value" "[B" (.ref t) ∧ RoadKit.Arv Z h' t kb .byte N (bs.map Value.int) (.int 0)
/-- **new String(chars) AT A CALL, FOR THE WRITER**: a char[] of n known ints, each 0 to 255 -/
theorem backV {p : Program} {l : Launch} {e : Env} {R : Room} {s : State} {args : Array Value} {below : List Frame} {len W : Nat} {Z : State} {a0 : Array Value} {h : Heap} (hZ : Z.Warmed39 s.vm) (hw : ∀ d ∈ words, d.before a0 Z = true) {kI : Nat} (wi : (Jvm.Cond.instantiable ST kI).before a0 Z = true)
    {x b : Addr} {kC : ClassId} {cs bs : List Int32} {d v0 c0 : Value} {z N : Int32} {n n0 : Nat} (hx0 : n0 ≤ x) (hh0 : n0 ≤ h.size) (E : RoadKit.Exa Z h x ST) (V : RoadKit.Fld Z h x ST "value" "[B" v0) (C : RoadKit.Fld Z h x ST "coder" "B" c0) (K : RoadKit.Arv Z h b kC .char N (cs.map Value.int) d) (S : RoadKit.Sta Z h ST "COMPACT_STRINGS" "Z" (.int z)) (hz : ¬ z = 0)
    (hn : cs.length = n) (hN : N = Int32.ofNat n) (l0 : 0 < n) (l2 : n ≤ 4000) (hp : ∀ c ∈ cs, ¬ c < 0 ∧ ¬ (255 : Int32) < c) (hb : bs = cs.map (fun c => c.toInt8.toInt32)) (hfr : 4 ≤ R.frames) (hlo : W + 65 ≤ R.locals) :
    Back l R p e below s args (⟨"java/lang/String", "<init>", "([C)V"⟩ : MethodName) len W (fun P a => a = #[.ref x, .ref b] ∧ P.U.heap = h ∧ P.cells + 1 ≤ R.cells ∧ P.slots + n ≤ R.slots)
      (fun P _ v B => ∃ L, QV Z x N bs h n0 v B.U.heap L ∧ B.locs = P.locs ++ L ∧ B.cells = P.cells + 1 ∧ B.slots = P.slots + n) := by
  subst hn hN hb
  refine Back.mono (backArv hZ hw wi E V C K S hz (n32 (by omega)) l0 (by omega) (fun c hc => (hp c hc).2) hfr hlo) (fun P a hp => hp) (fun P a v B hp hq => ?_)
  obtain ⟨L, ⟨q1, q2, q3, q4, q5, q6, q7, ⟨kb, v1, v2⟩, q9⟩, hl, hc, hs⟩ := hq
  exact ⟨L, ⟨q1, fun y hy => by rw [q2 y hy]; exact hx0, q3, q5, q7, h.size, kb, hh0, Nat.le_refl _, Nat.ne_of_gt E.lt, q6, by rw [List.map_map]; exact v2⟩, hl, hc, hs⟩
end StrChars.Road
namespace StrChars
open Jvm Sem ClassFile Op Lib Jvm.Stand Jvm.Free.XT Jvm.Free.ALB Jvm.Free.JM Jvm.Free
open Jvm.Lib.Cold (StaticIs)
def hi8 (x : Int32) : Int32 := lo8 (x >>> ((8 : Int32) &&& 31))
/-- what StringUTF16.getChar makes of two bytes -/
def pairCh (u v : Int32) : Int32 := (((u &&& 255) <<< ((0 : Int32) &&& 31)) ||| ((v &&& 255) <<< ((8 : Int32) &&& 31))).toUInt32.toUInt16.toUInt32.toInt32
theorem lo8_and (x : Int32) : (lo8 x &&& 255).toBitVec.toNat = x.toBitVec.toNat % 256 := by
  have h : (lo8 x).toBitVec = (x.toBitVec.signExtend 8).signExtend 32 := by rw [lo8, Int8.toBitVec_toInt32, Int32.toBitVec_toInt8]
  rw [Int32.toBitVec_and, BitVec.toNat_and, h]
  have e : ((x.toBitVec.signExtend 8).signExtend 32).toNat % 256 = x.toBitVec.toNat % 256 := by
    rw [BitVec.toNat_signExtend]
    have hlt := x.toBitVec.isLt
    simp only [BitVec.toNat_setWidth, BitVec.toNat_signExtend]
    split <;> split <;> omega
  rw [← e]
  exact Nat.and_two_pow_sub_one_eq_mod _ 8
theorem pair_says {c : Int32} (h0 : ¬ c < 0) (h1 : ¬ 65535 < c) : pairCh (lo8 c) (hi8 c) = c := by
  rw [Int32.lt_iff_toInt_lt] at h0 h1
  have e0 : (0 : Int32).toInt = 0 := rfl
  have e1 : (65535 : Int32).toInt = 65535 := rfl
  have hc : c.toInt = c.toBitVec.toNat := by
    have := c.toBitVec.isLt
    have e : c.toInt = c.toBitVec.toInt := rfl
    rw [e] at h0 h1
    rw [e]
    rw [BitVec.toInt_eq_toNat_cond] at h0 h1 ⊢
    split at h0 <;> split <;> omega
  have hn : c.toBitVec.toNat < 65536 := by omega
  have a1 := lo8_and c
  have a2 : (hi8 c &&& 255).toBitVec.toNat = c.toBitVec.toNat / 256 := by
    rw [hi8, lo8_and]
    have e : ((8 : Int32) &&& 31) = 8 := by decide
    rw [e, Int32.toBitVec_shiftRight]
    have e2 : ((8 : Int32).toBitVec.smod 32) = 8#32 := by decide
    rw [e2, BitVec.sshiftRight_eq', BitVec.toNat_sshiftRight_of_msb_false (by rw [BitVec.msb_eq_false_iff_two_mul_lt]; omega)]
    show c.toBitVec.toNat >>> 8 % 256 = _
    rw [Nat.shiftRight_eq_div_pow]
    omega
  unfold pairCh
  apply Int32.toBitVec_inj.mp
  apply BitVec.eq_of_toNat_eq
  have f0 : ((0 : Int32) &&& 31) = 0 := by decide
  have f8 : ((8 : Int32) &&& 31) = 8 := by decide
  rw [f0, f8]
  have g : (((lo8 c &&& 255) <<< (0 : Int32)) ||| ((hi8 c &&& 255) <<< (8 : Int32))).toBitVec.toNat = c.toBitVec.toNat := by
    rw [Int32.toBitVec_or, Int32.toBitVec_shiftLeft, Int32.toBitVec_shiftLeft]
    have s0 : ((0 : Int32).toBitVec.smod 32) = 0#32 := by decide
    have s8 : ((8 : Int32).toBitVec.smod 32) = 8#32 := by decide
    rw [s0, s8, BitVec.toNat_or]
    simp only [BitVec.shiftLeft_eq', BitVec.toNat_shiftLeft, a1, a2]
    show (c.toBitVec.toNat % 256) <<< 0 % 2 ^ 32 ||| (c.toBitVec.toNat / 256) <<< 8 % 2 ^ 32 = _
    rw [Nat.shiftLeft_zero, Nat.mod_eq_of_lt (show c.toBitVec.toNat % 256 < 2 ^ 32 by omega), Nat.mod_eq_of_lt (show (c.toBitVec.toNat / 256) <<< 8 < 2 ^ 32 by rw [Nat.shiftLeft_eq]; omega), Nat.or_comm, ← Nat.shiftLeft_add_eq_or_of_lt (by omega), Nat.shiftLeft_eq]
    omega
  show BitVec.toNat (((((lo8 c &&& 255) <<< (0 : Int32)) ||| ((hi8 c &&& 255) <<< (8 : Int32))).toBitVec.setWidth 16).setWidth 32) = _
  rw [BitVec.toNat_setWidth, BitVec.toNat_setWidth, g]
  omega
end StrChars
namespace StrChars
open Jvm Sem ClassFile Op Lib Jvm.Stand Jvm.Free.XT Jvm.Free.ALB Jvm.Free.JM Jvm.Free
open Jvm.Lib.Cold (StaticIs)
/-- the array's cell V codes the n chars f 0 .. f (n - 1) by the coder cd, as the JDK does: coder 1 just where some char is above 255 -/
def Cod (cd : Int32) (n : Nat) (f : Nat → Int32) (V : Cell) : Prop := (cd = 0 ∧ V.slots.size = n ∧ ∀ j, j < n → V.slots[j]? = some (.int (lo8 (f j))) ∧ ¬ 255 < f j) ∨ (cd = 1 ∧ V.slots.size = 2 * n ∧ (∀ j, j < n → V.slots[2 * j]? = some (.int (lo8 (f j))) ∧ V.slots[2 * j + 1]? = some (.int (hi8 (f j)))) ∧ ∃ j, j < n ∧ 255 < f j)
/-- **x is a String of the n chars f 0 .. f (n - 1)**, Latin-1 or UTF-16; its array at t has the cell V -/
def Txt (x t : Addr) (V : Cell) (cd : Int32) (n : Nat) (f : Nat → Int32) (U : State) : Prop := Exact "java/lang/String" x U ∧ Has x "java/lang/String" "value" "[B" (.ref t) U ∧ Has x "java/lang/String" "coder" "B" (.int cd) U ∧ XT.Arr .byte t V U ∧ Cod cd n f V ∧ ∀ j, j < n → ¬ f j < 0 ∧ ¬ 65535 < f j
theorem Txt.mv {x t : Addr} {V : Cell} {cd : Int32} {n : Nat} {f : Nat → Int32} {U U' : State} (h : Txt x t V cd n f U) (hal : U.vm.Alike U'.vm) (hh : U'.heap = U.heap) : Txt x t V cd n f U' := ⟨h.1.mv hal hh, h.2.1.mv hal hh, h.2.2.1.mv hal hh, h.2.2.2.1.mv hal hh, h.2.2.2.2⟩
end StrChars
namespace StrChars.Road
open Jvm Sem ClassFile Op Lib Jvm.Stand Jvm.Free Jvm.Free.XT
open Jvm.Lib.Cold (StaticIs)
theorem consq {a : Array Value} {s : State} {c : Jvm.Cond} {L : List Jvm.Cond} (h0 : c.before a s = true) (h : ∀ w ∈ L, w.before a s = true) : ∀ w ∈ c :: L, w.before a s = true := fun w hw => (List.mem_cons.mp hw).elim (fun e => e ▸ h0) (h w)
/-- the bytes of the chars cs, low before high -/
def wideBytes : List Int32 → List Value
  | [] => []
  | c :: cs => .int (lo8 c) :: .int (hi8 c) :: wideBytes cs
theorem wide_lo (d : Value) : ∀ (cs : List Int32) (j : Nat), j < cs.length → (wideBytes cs).getD (2 * j) d = .int (lo8 (cs.getD j 0))
  | [], j, h => absurd h (Nat.not_lt_zero j)
  | c :: cs, 0, _ => rfl
  | c :: cs, j + 1, h => by
    have q := wide_lo d cs j (by simpa using h)
    rw [show 2 * (j + 1) = 2 * j + 1 + 1 from by omega]
    simpa [wideBytes] using q
theorem wide_hi (d : Value) : ∀ (cs : List Int32) (j : Nat), j < cs.length → (wideBytes cs).getD (2 * j + 1) d = .int (hi8 (cs.getD j 0))
  | [], j, h => absurd h (Nat.not_lt_zero j)
  | c :: cs, 0, _ => rfl
  | c :: cs, j + 1, h => by
    have q := wide_hi d cs j (by simpa using h)
    rw [show 2 * (j + 1) + 1 = 2 * j + 1 + 1 + 1 from by omega]
    simpa [wideBytes] using q
theorem low_at (d : Value) (cs : List Int32) (j : Nat) (h : j < cs.length) : (cs.map fun c => Value.int (lo8 c)).getD j d = .int (lo8 (cs.getD j 0)) := by
  simp [List.getD_eq_getElem?_getD, h]
/-- an array of N2 bytes vs codes the chars cs by the coder cd -/
def CodA (cs : List Int32) (cd N2 : Int32) (vs : List Value) : Prop := (cd = 0 ∧ N2 = Int32.ofNat cs.length ∧ vs = (cs.map fun c => Value.int (lo8 c)) ∧ ∀ c ∈ cs, ¬ 255 < c) ∨ (cd = 1 ∧ N2 = Int32.ofNat (2 * cs.length) ∧ vs = wideBytes cs ∧ ∃ c ∈ cs, 255 < c)
theorem CodA.cod {cs : List Int32} {cd N2 : Int32} {vs : List Value} {V : Cell} (h : CodA cs cd N2 vs) (hn : 2 * cs.length < 2 ^ 31) (hs : V.slots.size = N2.toNatClampNeg) (hv : RoadKit.Has V vs (.int 0)) : Cod cd cs.length (fun j => cs.getD j 0) V := by
  rcases h with ⟨rfl, rfl, rfl, h⟩ | ⟨rfl, rfl, rfl, c, hc, hw⟩
  · rw [n32 (by omega)] at hs
    exact Or.inl ⟨rfl, hs, fun j hj => ⟨by rw [hv j (by omega), low_at _ _ _ hj], by
      have e : cs.getD j 0 = cs[j] := by simp [List.getD_eq_getElem?_getD, hj]
      show ¬ 255 < cs.getD j 0
      rw [e]; exact h _ (List.getElem_mem _)⟩⟩
  · rw [n32 (by omega)] at hs
    obtain ⟨j, hj, rfl⟩ := List.getElem_of_mem hc
    exact Or.inr ⟨rfl, hs, fun j hj => ⟨by rw [hv _ (by omega), wide_lo _ _ _ hj], by rw [hv _ (by omega), wide_hi _ _ _ hj]⟩, j, hj, by
      have e : cs.getD j 0 = cs[j] := by simp [List.getD_eq_getElem?_getD, hj]
      show 255 < cs.getD j 0
      rw [e]; exact hw⟩
/-- an object of exactly java/lang/String, its two fields found: as the laws ask it -/
theorem strObj {Z U : State} {a0 : Array Value} {kI : Nat} (wi : (Jvm.Cond.instantiable ST kI).before a0 Z = true) (al : Z.vm.Alike U.vm) {x : Addr} {v0 c0 : Value} (E : RoadKit.Exa Z U.heap x ST) (V : RoadKit.Fld Z U.heap x ST "value" "[B" v0) (C : RoadKit.Fld Z U.heap x ST "coder" "B" c0) :
    ∃ (D : Cell) (fV fC : Field), Blank ST x D U ∧ Found ST "value" "[B" fV U ∧ Found ST "coder" "B" fC U ∧ D.slots[fV.slot]? = some v0 ∧ D.slots[fC.slot]? = some c0 ∧ RoadKit.slotOf Z ST "value" "[B" = fV.slot ∧ RoadKit.slotOf Z ST "coder" "B" = fC.slot := by
  obtain ⟨D, cfV, kV, iV, fV, hD, gV, stV, knV, obV, asV, slV⟩ := V
  obtain ⟨D', cfC, kC, iC, fC, hD', gC, stC, -, -, asC, slC⟩ := C
  cases hD.symm.trans hD'
  obtain ⟨D2, kD, e1, e2, e3, e4, e5⟩ := E
  cases hD.symm.trans e1
  obtain ⟨c2, k2, i1, i2, i3, -⟩ := Cond.instantiable_spec wi
  cases e2.symm.trans i1
  cases e3.symm.trans i2
  obtain ⟨kU, u1, u2⟩ := al.2.2 _ _ e3
  exact ⟨D, fV, fC, ⟨hD, ⟨knV, fun q hq => by rw [hq] at obV; cases obV⟩, by rw [al.findClass]; exact e2, kU, u1, by rw [u2]; exact i3, by rw [u2]; exact e5 i3⟩, ⟨SBG.found_only al ⟨cfV, kV, iV, gV⟩, stV⟩, ⟨SBG.found_only al ⟨cfC, kC, iC, gC⟩, stC⟩, slV, slC, by simp [RoadKit.slotOf, gV], by simp [RoadKit.slotOf, gC]⟩
theorem sta_is {Z U : State} (al : Z.vm.Alike U.vm) {C n d : String} {v : Value} (S : RoadKit.Sta Z U.heap C n d v) : StaticIs U C n d v := by
  obtain ⟨cfS, iS, kS, fS, st, cS, t1, t2, t3, t4, t5, t6, t7⟩ := S
  exact StaticIs.there (s := { Z with heap := U.heap }) ⟨cfS, iS, kS, fS, st, cS, t1, t2, t3, t4, t5, (fun q => by rw [q] at t6; cases t6), t7⟩ al rfl
end StrChars.Road
namespace StrChars
open Jvm Sem ClassFile Op Lib Jvm.Stand Jvm.Free.XT Jvm.Free.ALB Jvm.Free.JM Jvm.Free
open Jvm.Lib.Cold (StaticIs)
/-- what place i of a byte[]'s cell holds -/
def yv (A : Cell) (i : Nat) : Int32 := match A.slots[i]? with | some (.int x) => x | _ => 0
theorem yv_get {a : Addr} {A : Cell} {U : State} (h : XT.Arr .byte a A U) (ht : Typed .byte A) {i : Nat} (hi : i < A.slots.size) : A.slots[i]? = some (.int (yv A i)) := by
  have e := Array.getElem?_eq_getElem hi
  have f := ht i _ e
  unfold yv; rw [e]
  generalize A.slots[i] = v at f
  cases v <;> simp [fits] at f ⊢
/-- the two arrays are equal, place for place -/
def EqC (A B : Cell) : Prop := A.slots.size = B.slots.size ∧ ∀ i, i < A.slots.size → yv A i = yv B i
/-- a boolean that says whether p -/
def Says01 (q : Prop) (r : Option Value) (s u : State) : Prop := ∃ v : Int32, r = some (.int v) ∧ u.heap = s.heap ∧ ((v = 1 ∧ q) ∨ (v = 0 ∧ ¬ q))
theorem Says01.mv {q : Prop} : ∀ r (U U' V V' : State), U'.heap = U.heap → V.vm.Alike V'.vm → V'.heap = V.heap → Says01 q r U V → Says01 q r U' V' :=
  fun r U U' V V' h1 _ h2 ⟨v, a, b, c⟩ => ⟨v, a, by rw [h1, h2]; exact b, c⟩
namespace LEq
def yN : MethodName := ⟨"java/lang/StringLatin1", "equals", "([B[B)Z"⟩
abbrev yB : ByteArray := jdk_43_method_13_code
theorem d0 : decode yB 0 = .ok (.aload_n 0, 1) := by decide +kernel
theorem d1 : decode yB 1 = .ok (.arraylength, 1) := by decide +kernel
theorem d2 : decode yB 2 = .ok (.aload_n 1, 1) := by decide +kernel
theorem d3 : decode yB 3 = .ok (.arraylength, 1) := by decide +kernel
theorem d4 : decode yB 4 = .ok (.if_icmp (.ne) 30, 3) := by decide +kernel
theorem d7 : decode yB 7 = .ok (.iconst 0, 1) := by decide +kernel
theorem d8 : decode yB 8 = .ok (.istore_n 2, 1) := by decide +kernel
theorem d9 : decode yB 9 = .ok (.iload_n 2, 1) := by decide +kernel
theorem d10 : decode yB 10 = .ok (.aload_n 0, 1) := by decide +kernel
theorem d11 : decode yB 11 = .ok (.arraylength, 1) := by decide +kernel
theorem d12 : decode yB 12 = .ok (.if_icmp (.ge) 20, 3) := by decide +kernel
theorem d15 : decode yB 15 = .ok (.aload_n 0, 1) := by decide +kernel
theorem d16 : decode yB 16 = .ok (.iload_n 2, 1) := by decide +kernel
theorem d17 : decode yB 17 = .ok (.baload, 1) := by decide +kernel
theorem d18 : decode yB 18 = .ok (.aload_n 1, 1) := by decide +kernel
theorem d19 : decode yB 19 = .ok (.iload_n 2, 1) := by decide +kernel
theorem d20 : decode yB 20 = .ok (.baload, 1) := by decide +kernel
theorem d21 : decode yB 21 = .ok (.if_icmp (.eq) 5, 3) := by decide +kernel
theorem d24 : decode yB 24 = .ok (.iconst 0, 1) := by decide +kernel
theorem d25 : decode yB 25 = .ok (.ireturn, 1) := by decide +kernel
theorem d26 : decode yB 26 = .ok (.iinc 2 1, 3) := by decide +kernel
theorem d29 : decode yB 29 = .ok (.goto (-20), 3) := by decide +kernel
theorem d32 : decode yB 32 = .ok (.iconst 1, 1) := by decide +kernel
theorem d33 : decode yB 33 = .ok (.ireturn, 1) := by decide +kernel
theorem d34 : decode yB 34 = .ok (.iconst 0, 1) := by decide +kernel
theorem d35 : decode yB 35 = .ok (.ireturn, 1) := by decide +kernel
def site : List Cond := []
def tab : Cond := tabOf yN yB 3 (some .boolean) site
def P (a : Addr) (A : Cell) (b : Addr) (B : Cell) (args : Array Value) (s : State) : Prop := args = #[.ref a, .ref b] ∧ XT.Arr .byte a A s ∧ Typed .byte A ∧ XT.Arr .byte b B s ∧ Typed .byte B
/-- whether two byte[] are equal, place for place -/
theorem law (l : Launch) (a : Addr) (A : Cell) (b : Addr) (B : Cell) : Law l yN 2 2 0 0 yB 3 (some .boolean) site (P a A b B) (Says01 (EqC A B)) [] 0 0 := by
  refine Law.of_walk (plainFor_of_name (by decide +kernel)) (by decide +kernel) (by decide +kernel) (by decide) (fun _ _ h => by rw [h.1]; rfl) (fun _ U U' hal hh h => ⟨h.1, h.2.1.mv hal hh, h.2.2.1, h.2.2.2.1.mv hal hh, h.2.2.2.2⟩) (fun r U U' V V' h1 hal h2 h => Says01.mv r U U' V V' h1 hal h2 h) ?_
  intro p e s m args below meth c s₁ X0 hexec hbytes hml hret hlk hnm hown hh0 W hP
  obtain ⟨rfl, hA, tA, hB, tB⟩ := hP
  have a31 := hA.2.2.2
  have b31 := hB.2.2.2
  have hA0 := hA.mv X0.warmed.alike hh0
  have hB0 := hB.mv X0.warmed.alike hh0
  have c1 : Steps p.tables e below (s₁.setTop (entryFrame m #[.ref a, .ref b] 3)) (s₁.setTop (mkF m 0 #[.val (.ref a), .val (.ref b), .unset] [])) := entry rfl
  have c2 : Steps p.tables e below (s₁.setTop (entryFrame m #[.ref a, .ref b] 3)) (s₁.setTop (mkF m 4 #[.val (.ref a), .val (.ref b), .unset] [.int (Int32.ofNat B.slots.size), .int (Int32.ofNat A.slots.size)])) := c1.trans (by
    refine XS.aloadN X0.here hexec rfl (hb hbytes d0) rfl rfl ?_
    refine X0.alen hexec hA0 rfl rfl (hb hbytes d1) ?_
    refine XS.aloadN X0.here hexec rfl (hb hbytes d2) rfl rfl ?_
    refine X0.alen hexec hB0 rfl rfl (hb hbytes d3) ?_
    exact Steps.refl _)
  by_cases hs : A.slots.size = B.slots.size
  · have c3 : Steps p.tables e below (s₁.setTop (entryFrame m #[.ref a, .ref b] 3)) (s₁.setTop (mkF m 9 #[.val (.ref a), .val (.ref b), .val (.int 0)] [])) := c2.trans (by
      refine XS.icmpNo X0.here hexec rfl (hb hbytes d4) rfl (ii_ne_f (by rw [hs])) ?_
      refine iconstV X0.here hexec rfl 0 (hb hbytes d7) (by decide) ?_
      refine XS.istoreN X0.here hexec rfl (hb hbytes d8) rfl rfl ?_
      exact Steps.refl _)
    have loop : ∀ (r i : Nat), i + r = A.slots.size → (∀ j, j < i → yv A j = yv B j) → Steps p.tables e below (s₁.setTop (entryFrame m #[.ref a, .ref b] 3)) (s₁.setTop (mkF m 9 #[.val (.ref a), .val (.ref b), .val (.int (Int32.ofNat i))] [])) → ∃ (pc : Nat) (Ls : Array Slot) (v : Int32), (pc = 25 ∨ pc = 33) ∧ ((v = 1 ∧ EqC A B) ∨ (v = 0 ∧ ¬ EqC A B)) ∧ Steps p.tables e below (s₁.setTop (entryFrame m #[.ref a, .ref b] 3)) (s₁.setTop (mkF m pc Ls [.int v])) := by
      intro r
      induction r with
      | zero =>
        intro i hi he cl
        exact ⟨33, _, 1, Or.inr rfl, Or.inl ⟨rfl, hs, fun j hj => he j (by omega)⟩, cl.trans (by
          refine XS.iloadN X0.here hexec rfl (hb hbytes d9) rfl ?_
          refine XS.aloadN X0.here hexec rfl (hb hbytes d10) rfl rfl ?_
          refine X0.alen hexec hA0 rfl rfl (hb hbytes d11) ?_
          refine XS.icmpYes X0.here hexec rfl (pc0 := 12) rfl (hb hbytes d12) rfl (ii_ge_t (nlt32 (by omega) (by omega))) (by decide) rfl ?_
          refine iconstV X0.here hexec rfl 1 (hb hbytes d32) (by decide) ?_
          exact Steps.refl _)⟩
      | succ r ih =>
        intro i hi he cl
        have c4 : Steps p.tables e below (s₁.setTop (entryFrame m #[.ref a, .ref b] 3)) (s₁.setTop (mkF m 21 #[.val (.ref a), .val (.ref b), .val (.int (Int32.ofNat i))] [.int (yv B i), .int (yv A i)])) := cl.trans (by
          refine XS.iloadN X0.here hexec rfl (hb hbytes d9) rfl ?_
          refine XS.aloadN X0.here hexec rfl (hb hbytes d10) rfl rfl ?_
          refine X0.alen hexec hA0 rfl rfl (hb hbytes d11) ?_
          refine XS.icmpNo X0.here hexec rfl (hb hbytes d12) rfl (ii_ge_f (lt32 (by omega) (by omega))) ?_
          refine XS.aloadN X0.here hexec rfl (hb hbytes d15) rfl rfl ?_
          refine XS.iloadN X0.here hexec rfl (hb hbytes d16) rfl ?_
          refine X0.aget hexec hA0 rfl (yv_get hA tA (i := i) (by omega)) rfl rfl (hb hbytes d17) ?_
          refine XS.aloadN X0.here hexec rfl (hb hbytes d18) rfl rfl ?_
          refine XS.iloadN X0.here hexec rfl (hb hbytes d19) rfl ?_
          refine X0.aget hexec hB0 rfl (yv_get hB tB (i := i) (by omega)) rfl rfl (hb hbytes d20) ?_
          exact Steps.refl _)
        by_cases hv : yv A i = yv B i
        · have c5 : Steps p.tables e below (s₁.setTop (entryFrame m #[.ref a, .ref b] 3)) (s₁.setTop (mkF m 9 #[.val (.ref a), .val (.ref b), .val (.int (Int32.ofNat i + 1))] [])) := c4.trans (by
            refine XS.icmpYes X0.here hexec rfl (pc0 := 21) rfl (hb hbytes d21) rfl (ii_eq_t hv) (by decide) rfl ?_
            refine iincV X0.here hexec rfl 1 (hb hbytes d26) (by decide) rfl rfl ?_
            refine XS.goto X0.here hexec rfl (pc0 := 29) rfl (hb hbytes d29) (by decide) rfl ?_
            exact Steps.refl _)
          rw [succ32] at c5
          exact ih (i + 1) (by omega) (fun j hj => by
            by_cases e : j = i
            · rw [e]; exact hv
            · exact he j (by omega)) c5
        · exact ⟨25, _, 0, Or.inl rfl, Or.inr ⟨rfl, fun q => hv (q.2 i (by omega))⟩, c4.trans (by
            refine XS.icmpNo X0.here hexec rfl (hb hbytes d21) rfl (ii_eq_f hv) ?_
            refine iconstV X0.here hexec rfl 0 (hb hbytes d24) (by decide) ?_
            exact Steps.refl _)⟩
    obtain ⟨pc, Ls, v, hpc, hv, cz⟩ := loop A.slots.size 0 (by omega) (fun j hj => absurd hj (Nat.not_lt_zero j)) c3
    have nv : narrow .boolean (.int v) = .int v := by rcases hv with ⟨rfl, -⟩ | ⟨rfl, -⟩ <;> rfl
    rcases hpc with rfl | rfl
    · exact ⟨s₁, some (.int v), _, _, _, X0, rfl, rfl, rfl, (fun h => by cases h), ⟨v, rfl, hh0, hv⟩, fun fs hl => cz.trans (X0.ireturnOut hexec hret nv (Or.inr (Or.inl rfl)) (hb hbytes d25) hl)⟩
    · exact ⟨s₁, some (.int v), _, _, _, X0, rfl, rfl, rfl, (fun h => by cases h), ⟨v, rfl, hh0, hv⟩, fun fs hl => cz.trans (X0.ireturnOut hexec hret nv (Or.inr (Or.inl rfl)) (hb hbytes d33) hl)⟩
  · have c3 : Steps p.tables e below (s₁.setTop (entryFrame m #[.ref a, .ref b] 3)) (s₁.setTop (mkF m 35 #[.val (.ref a), .val (.ref b), .unset] [.int 0])) := c2.trans (by
      refine XS.icmpYes X0.here hexec rfl (pc0 := 4) rfl (hb hbytes d4) rfl (ii_ne_t (ne32 a31 b31 hs)) (by decide) rfl ?_
      refine iconstV X0.here hexec rfl 0 (hb hbytes d34) (by decide) ?_
      exact Steps.refl _)
    exact ⟨s₁, some (.int 0), _, _, _, X0, rfl, rfl, rfl, (fun h => by cases h), ⟨0, rfl, hh0, Or.inr ⟨rfl, fun q => hs q.1⟩⟩, fun fs hl => c3.trans (X0.ireturnOut hexec hret rfl (Or.inr (Or.inl rfl)) (hb hbytes d35) hl)⟩
end LEq
theorem Cod.ty {cd : Int32} {n : Nat} {f : Nat → Int32} {V : Cell} (h : Cod cd n f V) : Typed .byte V := fun i v hv => by
  have hi : i < V.slots.size := (Array.getElem?_eq_some_iff.mp hv).1
  rcases h with ⟨-, k1, k2⟩ | ⟨-, k1, k2, -⟩
  · rw [(k2 i (by omega)).1] at hv; cases hv; exact fits_lo8 _
  · rcases Nat.mod_two_eq_zero_or_one i with e | e
    · obtain ⟨j, rfl⟩ : ∃ j, i = 2 * j := ⟨i / 2, by omega⟩
      rw [(k2 j (by omega)).1] at hv; cases hv; exact fits_lo8 _
    · obtain ⟨j, rfl⟩ : ∃ j, i = 2 * j + 1 := ⟨i / 2, by omega⟩
      rw [(k2 j (by omega)).2] at hv; cases hv; exact fits_lo8 _
/-- the same text -/
def SameT (n : Nat) (f : Nat → Int32) (k : Nat) (g : Nat → Int32) : Prop := n = k ∧ ∀ j, j < n → f j = g j
theorem lo8_inj {x y : Int32} (h0 : ¬ x < 0) (h1 : ¬ 255 < x) (k0 : ¬ y < 0) (k1 : ¬ 255 < y) (h : lo8 x = lo8 y) : x = y := by
  rw [← lo8_mask h0 h1, ← lo8_mask k0 k1, h]
/-- arrays coded by one coder are equal just where the texts are -/
theorem Cod.eqv {cd : Int32} {n k : Nat} {f g : Nat → Int32} {V V' : Cell} (h : Cod cd n f V) (h' : Cod cd k g V') (hf : ∀ j, j < n → ¬ f j < 0 ∧ ¬ 65535 < f j) (hg : ∀ j, j < k → ¬ g j < 0 ∧ ¬ 65535 < g j) : EqC V V' ↔ SameT n f k g := by
  have yvv : ∀ {W : Cell} {i : Nat} {x : Int32}, W.slots[i]? = some (.int x) → yv W i = x := fun q => by unfold yv; rw [q]
  rcases h with ⟨rfl, k1, k2⟩ | ⟨rfl, k1, k2, -⟩
  · rcases h' with ⟨-, m1, m2⟩ | ⟨e, -⟩
    · constructor
      · rintro ⟨e1, e2⟩
        refine ⟨by omega, fun j hj => ?_⟩
        have q := e2 j (by omega)
        rw [yvv (k2 j hj).1, yvv (m2 j (by omega)).1] at q
        exact lo8_inj (hf j hj).1 (k2 j hj).2 (hg j (by omega)).1 (m2 j (by omega)).2 q
      · rintro ⟨rfl, e2⟩
        refine ⟨by omega, fun j hj => ?_⟩
        rw [yvv (k2 j (by omega)).1, yvv (m2 j (by omega)).1, e2 j (by omega)]
    · exact absurd e (by decide)
  · rcases h' with ⟨e, -⟩ | ⟨-, m1, m2, -⟩
    · exact absurd e (by decide)
    · constructor
      · rintro ⟨e1, e2⟩
        refine ⟨by omega, fun j hj => ?_⟩
        have q1 := e2 (2 * j) (by omega)
        have q2 := e2 (2 * j + 1) (by omega)
        rw [yvv (k2 j hj).1, yvv (m2 j (by omega)).1] at q1
        rw [yvv (k2 j hj).2, yvv (m2 j (by omega)).2] at q2
        rw [← pair_says (hf j hj).1 (hf j hj).2, ← pair_says (hg j (by omega)).1 (hg j (by omega)).2, q1, q2]
      · rintro ⟨rfl, e2⟩
        refine ⟨by omega, fun i hi => ?_⟩
        rcases Nat.mod_two_eq_zero_or_one i with e | e
        · obtain ⟨j, rfl⟩ : ∃ j, i = 2 * j := ⟨i / 2, by omega⟩
          rw [yvv (k2 j (by omega)).1, yvv (m2 j (by omega)).1, e2 j (by omega)]
        · obtain ⟨j, rfl⟩ : ∃ j, i = 2 * j + 1 := ⟨i / 2, by omega⟩
          rw [yvv (k2 j (by omega)).2, yvv (m2 j (by omega)).2, e2 j (by omega)]
/-- two codings differ: so do the texts -/
theorem Cod.dif {cd cd' : Int32} {n k : Nat} {f g : Nat → Int32} {V V' : Cell} (h : Cod cd n f V) (h' : Cod cd' k g V') (hne : ¬ cd = cd') : ¬ SameT n f k g := by
  rintro ⟨rfl, e⟩
  rcases h with ⟨rfl, -, k2⟩ | ⟨rfl, -, -, j, hj, hw⟩
  · rcases h' with ⟨rfl, -⟩ | ⟨-, -, -, j, hj, hw⟩
    · exact hne rfl
    · exact (k2 j hj).2 (by rw [e j hj]; exact hw)
  · rcases h' with ⟨-, -, m2⟩ | ⟨rfl, -⟩
    · exact (m2 j hj).2 (by rw [← e j hj]; exact hw)
    · exact hne rfl
/-- an object of exactly C is an instance of C -/
theorem cinst {p : Program} {l : Launch} {e : Env} {R : Room} {s : State} {m : MethodId} {args : Array Value} {below : List Frame} {meth : Method} {c : Code} {T : State} {locs : List Loc} {cells slots : Nat} (X : Stand p l e R s m args below meth c T locs cells slots) (hexec : p.tables.exec = Jvm.exec) {own C : String} {index : Nat} (hown : s.vm.findClass own = some m.cls) (hlink : (Cond.classLink own index C).before args s = true) {a : Addr} (hE : Exact C a T)
    {g : JFrame} (hg : g.method = m) {rest : List Value} (hstack : g.stack = .ref a :: rest) (hdg : decode c.code g.pc = .ok (.instanceof index, 3)) :
    ∃ T', Stand p l e R s m args below meth c T' locs cells slots ∧ T'.heap = T.heap ∧ ∀ target, Steps p.tables e below (T'.setTop { g with pc := g.pc + 3, stack := .int 1 :: rest }) target → Steps p.tables e below (T.setTop g) target := by
  obtain ⟨cB, h1, D, h2, h3, h4⟩ := hE
  have h1' : s.vm.findClass C = some cB := by rw [← X.warmed.alike.findClass]; exact h1
  obtain ⟨vm', X', st⟩ := X.instanceofYes hexec hown hlink h2 h4 h1' (by rw [h3]; exact Jvm.Free.SB.assignable_self _ _) hg hstack hdg
  exact ⟨_, X', rfl, st⟩
theorem cself {p : Program} {l : Launch} {e : Env} {R : Room} {s : State} {m : MethodId} {args : Array Value} {below : List Frame} {meth : Method} {c : Code} {T : State} {locs : List Loc} {cells slots : Nat} (X : Stand p l e R s m args below meth c T locs cells slots) (hexec : p.tables.exec = Jvm.exec) {own C : String} {index : Nat} (hown : s.vm.findClass own = some m.cls) (hlink : (Cond.classLink own index C).before args s = true) {a : Addr} (hE : Exact C a T)
    {g : JFrame} (hg : g.method = m) {rest : List Value} (hstack : g.stack = .ref a :: rest) (hdg : decode c.code g.pc = .ok (.checkcast index, 3)) :
    ∃ T', Stand p l e R s m args below meth c T' locs cells slots ∧ T'.heap = T.heap ∧ ∀ target, Steps p.tables e below (T'.setTop { g with pc := g.pc + 3, stack := .ref a :: rest }) target → Steps p.tables e below (T.setTop g) target := by
  obtain ⟨cB, h1, D, h2, h3, h4⟩ := hE
  have h1' : s.vm.findClass C = some cB := by rw [← X.warmed.alike.findClass]; exact h1
  obtain ⟨vm', X', st⟩ := X.checkcastYes hexec hown hlink h2 h4 h1' (by rw [h3]; exact Jvm.Free.SB.assignable_self _ _) hg hstack hdg
  exact ⟨_, X', rfl, fun t h => st t (by rw [← hstack] at h; exact h)⟩
namespace SEq
def yN : MethodName := ⟨"java/lang/String", "equals", "(Ljava/lang/Object;)Z"⟩
abbrev yB : ByteArray := jdk_42_method_66_code
theorem d0 : decode yB 0 = .ok (.aload_n 0, 1) := by decide +kernel
theorem d1 : decode yB 1 = .ok (.aload_n 1, 1) := by decide +kernel
theorem d2 : decode yB 2 = .ok (.if_acmp (.ne) 5, 3) := by decide +kernel
theorem d5 : decode yB 5 = .ok (.iconst 1, 1) := by decide +kernel
theorem d6 : decode yB 6 = .ok (.ireturn, 1) := by decide +kernel
theorem d7 : decode yB 7 = .ok (.aload_n 1, 1) := by decide +kernel
theorem d8 : decode yB 8 = .ok (.instanceof 10, 3) := by decide +kernel
theorem d11 : decode yB 11 = .ok (.ifCond (.eq) 43, 3) := by decide +kernel
theorem d14 : decode yB 14 = .ok (.aload_n 1, 1) := by decide +kernel
theorem d15 : decode yB 15 = .ok (.checkcast 10, 3) := by decide +kernel
theorem d18 : decode yB 18 = .ok (.astore_n 2, 1) := by decide +kernel
theorem d19 : decode yB 19 = .ok (.getstatic 38, 3) := by decide +kernel
theorem d22 : decode yB 22 = .ok (.ifCond (.eq) 14, 3) := by decide +kernel
theorem d25 : decode yB 25 = .ok (.aload_n 0, 1) := by decide +kernel
theorem d26 : decode yB 26 = .ok (.getfield 15, 3) := by decide +kernel
theorem d29 : decode yB 29 = .ok (.aload_n 2, 1) := by decide +kernel
theorem d30 : decode yB 30 = .ok (.getfield 15, 3) := by decide +kernel
theorem d33 : decode yB 33 = .ok (.if_icmp (.ne) 21, 3) := by decide +kernel
theorem d36 : decode yB 36 = .ok (.aload_n 0, 1) := by decide +kernel
theorem d37 : decode yB 37 = .ok (.getfield 9, 3) := by decide +kernel
theorem d40 : decode yB 40 = .ok (.aload_n 2, 1) := by decide +kernel
theorem d41 : decode yB 41 = .ok (.getfield 9, 3) := by decide +kernel
theorem d44 : decode yB 44 = .ok (.invokestatic 541, 3) := by decide +kernel
theorem d47 : decode yB 47 = .ok (.ifCond (.eq) 7, 3) := by decide +kernel
theorem d50 : decode yB 50 = .ok (.iconst 1, 1) := by decide +kernel
theorem d51 : decode yB 51 = .ok (.goto 4, 3) := by decide +kernel
theorem d54 : decode yB 54 = .ok (.iconst 0, 1) := by decide +kernel
theorem d55 : decode yB 55 = .ok (.ireturn, 1) := by decide +kernel
def site : List Cond := [.classLink "java/lang/String" 10 "java/lang/String", .fieldLink "java/lang/String" 38 "java/lang/String" "COMPACT_STRINGS" "Z", .fieldLink "java/lang/String" 15 "java/lang/String" "coder" "B", .fieldLink "java/lang/String" 9 "java/lang/String" "value" "[B", LEq.tab] ++ staticW "java/lang/String" 541 LEq.yN
def tab : Cond := tabOf yN yB 3 (some .boolean) site
def P (x t : Addr) (V : Cell) (cd : Int32) (n : Nat) (f : Nat → Int32) (y t' : Addr) (V' : Cell) (cd' : Int32) (k : Nat) (g : Nat → Int32) (z : Int32) (args : Array Value) (s : State) : Prop := args = #[.ref x, .ref y] ∧ Txt x t V cd n f s ∧ Txt y t' V' cd' k g s ∧ StaticIs s "java/lang/String" "COMPACT_STRINGS" "Z" (.int z) ∧ ¬ z = 0
/-- equals(Object) of two Strings: whether the texts are the same -/
theorem law (l : Launch) (x t : Addr) (V : Cell) (cd : Int32) (n : Nat) (f : Nat → Int32) (y t' : Addr) (V' : Cell) (cd' : Int32) (k : Nat) (g : Nat → Int32) (z : Int32) : Law l yN 2 1 1 14 yB 3 (some .boolean) site (P x t V cd n f y t' V' cd' k g z) (Says01 (SameT n f k g)) [] 0 0 := by
  refine Law.of_walk (plainFor_of_name (by decide +kernel)) (by decide +kernel) (by decide +kernel) (by decide) (fun _ _ h => by rw [h.1]; rfl) (fun _ U U' hal hh h => ⟨h.1, h.2.1.mv hal hh, h.2.2.1.mv hal hh, h.2.2.2.1.there hal hh, h.2.2.2.2⟩) (fun r U U' V V' h1 hal h2 h => Says01.mv r U U' V V' h1 hal h2 h) ?_
  intro p e s m args below meth c s₁ X0 hexec hbytes hml hret hlk hnm hown hh0 W hP
  obtain ⟨rfl, hx, hy, s1, hz⟩ := hP
  have c1 : Steps p.tables e below (s₁.setTop (entryFrame m #[.ref x, .ref y] 3)) (s₁.setTop (mkF m 2 #[.val (.ref x), .val (.ref y), .unset] [.ref y, .ref x])) := Steps.trans (entry rfl) (by
    show Steps p.tables e below (s₁.setTop (mkF m 0 #[.val (.ref x), .val (.ref y), .unset] [])) _
    refine XS.aloadN X0.here hexec rfl (hb hbytes d0) rfl rfl ?_
    refine XS.aloadN X0.here hexec rfl (hb hbytes d1) rfl rfl ?_
    exact Steps.refl _)
  by_cases hxy : x = y
  · have c2 : Steps p.tables e below (s₁.setTop (entryFrame m #[.ref x, .ref y] 3)) (s₁.setTop (mkF m 6 #[.val (.ref x), .val (.ref y), .unset] [.int 1])) := c1.trans (by
      refine acmpNo X0.here hexec rfl (hb hbytes d2) rfl rfl rfl (by simp [acmp, hxy]) ?_
      refine iconstV X0.here hexec rfl 1 (hb hbytes d5) (by decide) ?_
      exact Steps.refl _)
    subst hxy
    have ec : cd = cd' := by
      obtain ⟨D, fd, a1, a2, a3⟩ := hx.2.2.1
      obtain ⟨D', fd', b1, b2, b3⟩ := hy.2.2.1
      cases a1.symm.trans b1
      obtain ⟨q1, q2, q3, q4⟩ := a2.1
      obtain ⟨r1, r2, r3, r4⟩ := b2.1
      cases q4.symm.trans r4
      cases a3.symm.trans b3; rfl
    have et : t = t' := by
      obtain ⟨D, fd, a1, a2, a3⟩ := hx.2.1
      obtain ⟨D', fd', b1, b2, b3⟩ := hy.2.1
      cases a1.symm.trans b1
      obtain ⟨q1, q2, q3, q4⟩ := a2.1
      obtain ⟨r1, r2, r3, r4⟩ := b2.1
      cases q4.symm.trans r4
      cases a3.symm.trans b3; rfl
    subst ec et
    have ev : V = V' := by cases hx.2.2.2.1.1.symm.trans hy.2.2.2.1.1; rfl
    subst ev
    have hs : SameT n f k g := (Cod.eqv hx.2.2.2.2.1 hy.2.2.2.2.1 hx.2.2.2.2.2 hy.2.2.2.2.2).mp ⟨rfl, fun _ _ => rfl⟩
    exact ⟨s₁, some (.int 1), _, _, _, X0, rfl, rfl, rfl, (fun h => by cases h), ⟨1, rfl, hh0, Or.inl ⟨rfl, hs⟩⟩, fun fs hl => c2.trans (X0.ireturnOut hexec hret rfl (Or.inr (Or.inl rfl)) (hb hbytes d6) hl)⟩
  · have c2 : Steps p.tables e below (s₁.setTop (entryFrame m #[.ref x, .ref y] 3)) (s₁.setTop (mkF m 8 #[.val (.ref x), .val (.ref y), .unset] [.ref y])) := c1.trans (by
      refine acmpYes X0.here hexec rfl (pc0 := 2) rfl (hb hbytes d2) rfl rfl rfl (by simp [acmp, hxy]) (by decide) rfl ?_
      refine XS.aloadN X0.here hexec rfl (hb hbytes d7) rfl rfl ?_
      exact Steps.refl _)
    obtain ⟨T3, X3, q3, st3⟩ := cinst X0 hexec hown (wk W (.classLink "java/lang/String" 10 "java/lang/String")) (hy.mv X0.warmed.alike hh0).1 (g := (mkF m 8 #[.val (.ref x), .val (.ref y), .unset] [.ref y])) rfl (rest := []) rfl (hb hbytes d8)
    have hh3 := q3.trans hh0
    have c4 : Steps p.tables e below (s₁.setTop (entryFrame m #[.ref x, .ref y] 3)) (T3.setTop (mkF m 15 #[.val (.ref x), .val (.ref y), .unset] [.ref y])) := (c2.trans (st3 _ (Steps.refl _))).trans (by
      refine XS.ifNo X3.here hexec rfl (hb hbytes d11) rfl (i0_eq_f (by decide)) ?_
      refine XS.aloadN X3.here hexec rfl (hb hbytes d14) rfl rfl ?_
      exact Steps.refl _)
    obtain ⟨T5, X5, q5, st5⟩ := cself X3 hexec hown (wk W (.classLink "java/lang/String" 10 "java/lang/String")) (hy.mv X3.warmed.alike hh3).1 (g := (mkF m 15 #[.val (.ref x), .val (.ref y), .unset] [.ref y])) rfl (rest := []) rfl (hb hbytes d15)
    have hh5 := q5.trans hh3
    have c6 : Steps p.tables e below (s₁.setTop (entryFrame m #[.ref x, .ref y] 3)) (T5.setTop (mkF m 19 #[.val (.ref x), .val (.ref y), .val (.ref y)] [])) := (c4.trans (st5 _ (Steps.refl _))).trans (by
      refine XS.astoreN X5.here hexec rfl (hb hbytes d18) rfl rfl rfl ?_
      exact Steps.refl _)
    obtain ⟨T7, X7, q7, st7⟩ := X5.sget hexec hown (wk W (.fieldLink "java/lang/String" 38 "java/lang/String" "COMPACT_STRINGS" "Z")) s1 (fun _ _ h => by rw [hh5]; exact h) (g := (mkF m 19 #[.val (.ref x), .val (.ref y), .val (.ref y)] [])) rfl (hb hbytes d19)
    have hh7 := q7.trans hh5
    have c8 : Steps p.tables e below (s₁.setTop (entryFrame m #[.ref x, .ref y] 3)) (T7.setTop (mkF m 26 #[.val (.ref x), .val (.ref y), .val (.ref y)] [.ref x])) := (c6.trans (st7 _ (Steps.refl _))).trans (by
      refine XS.ifNo X7.here hexec rfl (hb hbytes d22) rfl (i0_eq_f hz) ?_
      refine XS.aloadN X7.here hexec rfl (hb hbytes d25) rfl rfl ?_
      exact Steps.refl _)
    obtain ⟨T9, X9, q9, st9⟩ := X7.hget hexec hown (wk W (.fieldLink "java/lang/String" 15 "java/lang/String" "coder" "B")) (hx.mv X7.warmed.alike hh7).2.2.1 (g := (mkF m 26 #[.val (.ref x), .val (.ref y), .val (.ref y)] [.ref x])) rfl (rest := []) rfl (hb hbytes d26)
    have hh9 := q9.trans hh7
    have c10 : Steps p.tables e below (s₁.setTop (entryFrame m #[.ref x, .ref y] 3)) (T9.setTop (mkF m 30 #[.val (.ref x), .val (.ref y), .val (.ref y)] [.ref y, .int cd])) := (c8.trans (st9 _ (Steps.refl _))).trans (by
      refine XS.aloadN X9.here hexec rfl (hb hbytes d29) rfl rfl ?_
      exact Steps.refl _)
    obtain ⟨T11, X11, q11, st11⟩ := X9.hget hexec hown (wk W (.fieldLink "java/lang/String" 15 "java/lang/String" "coder" "B")) (hy.mv X9.warmed.alike hh9).2.2.1 (g := (mkF m 30 #[.val (.ref x), .val (.ref y), .val (.ref y)] [.ref y, .int cd])) rfl (rest := [.int cd]) rfl (hb hbytes d30)
    have hh11 := q11.trans hh9
    have c12 : Steps p.tables e below (s₁.setTop (entryFrame m #[.ref x, .ref y] 3)) (T11.setTop (mkF m 33 #[.val (.ref x), .val (.ref y), .val (.ref y)] [.int cd', .int cd])) := c10.trans (st11 _ (Steps.refl _))
    by_cases hcd : cd = cd'
    · subst hcd
      have c13 : Steps p.tables e below (s₁.setTop (entryFrame m #[.ref x, .ref y] 3)) (T11.setTop (mkF m 37 #[.val (.ref x), .val (.ref y), .val (.ref y)] [.ref x])) := c12.trans (by
        refine XS.icmpNo X11.here hexec rfl (hb hbytes d33) rfl (ii_ne_f rfl) ?_
        refine XS.aloadN X11.here hexec rfl (hb hbytes d36) rfl rfl ?_
        exact Steps.refl _)
      obtain ⟨T14, X14, q14, st14⟩ := X11.hget hexec hown (wk W (.fieldLink "java/lang/String" 9 "java/lang/String" "value" "[B")) (hx.mv X11.warmed.alike hh11).2.1 (g := (mkF m 37 #[.val (.ref x), .val (.ref y), .val (.ref y)] [.ref x])) rfl (rest := []) rfl (hb hbytes d37)
      have hh14 := q14.trans hh11
      have c15 : Steps p.tables e below (s₁.setTop (entryFrame m #[.ref x, .ref y] 3)) (T14.setTop (mkF m 41 #[.val (.ref x), .val (.ref y), .val (.ref y)] [.ref y, .ref t])) := (c13.trans (st14 _ (Steps.refl _))).trans (by
        refine XS.aloadN X14.here hexec rfl (hb hbytes d40) rfl rfl ?_
        exact Steps.refl _)
      obtain ⟨T16, X16, q16, st16⟩ := X14.hget hexec hown (wk W (.fieldLink "java/lang/String" 9 "java/lang/String" "value" "[B")) (hy.mv X14.warmed.alike hh14).2.1 (g := (mkF m 41 #[.val (.ref x), .val (.ref y), .val (.ref y)] [.ref y, .ref t])) rfl (rest := [.ref t]) rfl (hb hbytes d41)
      have hh16 := q16.trans hh14
      have c17 : Steps p.tables e below (s₁.setTop (entryFrame m #[.ref x, .ref y] 3)) (T16.setTop (mkF m 44 #[.val (.ref x), .val (.ref y), .val (.ref y)] [.ref t', .ref t])) := c15.trans (st16 _ (Steps.refl _))
      obtain ⟨v18, T18, X18, E18, g18⟩ := X16.callS hexec (LEq.law l t V t' V') hown (wks W (staticW "java/lang/String" 541 LEq.yN)) (wk W LEq.tab) (W := 0) (Nat.le_of_ble_eq_true rfl) (Nat.le_of_ble_eq_true rfl) (Nat.le_refl _) (Nat.le_refl _) (g := (mkF m 44 #[.val (.ref x), .val (.ref y), .val (.ref y)] [.ref t', .ref t])) rfl (by rw [hml]; rfl) c17 (argsL := [.ref t, .ref t']) (rest := []) rfl rfl (by show 2 * 0 + 0 ≤ _; decide) (hb hbytes d44) (⟨rfl, hx.2.2.2.1.mv X16.warmed.alike hh16, hx.2.2.2.2.1.ty, hy.2.2.2.1.mv X16.warmed.alike hh16, hy.2.2.2.2.1.ty⟩)
      obtain ⟨v, rfl, q18, hv⟩ := E18
      have iff := Cod.eqv hx.2.2.2.2.1 hy.2.2.2.2.1 hx.2.2.2.2.2 hy.2.2.2.2.2
      rcases hv with ⟨rfl, he⟩ | ⟨rfl, he⟩
      · have c19 : Steps p.tables e below (s₁.setTop (entryFrame m #[.ref x, .ref y] 3)) (T18.setTop (mkF m 55 #[.val (.ref x), .val (.ref y), .val (.ref y)] [.int 1])) := Steps.trans g18 (by
          refine XS.ifNo X18.here hexec rfl (hb hbytes d47) rfl (i0_eq_f (by decide)) ?_
          refine iconstV X18.here hexec rfl 1 (hb hbytes d50) (by decide) ?_
          refine XS.goto X18.here hexec rfl (pc0 := 51) rfl (hb hbytes d51) (by decide) rfl ?_
          exact Steps.refl _)
        exact ⟨T18, some (.int 1), _, _, _, X18, rfl, rfl, rfl, (fun h => by cases h), ⟨1, rfl, q18.trans hh16, Or.inl ⟨rfl, iff.mp he⟩⟩, fun fs hl => c19.trans (X18.ireturnOut hexec hret rfl (Or.inr (Or.inl rfl)) (hb hbytes d55) hl)⟩
      · have c19 : Steps p.tables e below (s₁.setTop (entryFrame m #[.ref x, .ref y] 3)) (T18.setTop (mkF m 55 #[.val (.ref x), .val (.ref y), .val (.ref y)] [.int 0])) := Steps.trans g18 (by
          refine XS.ifYes X18.here hexec rfl (pc0 := 47) rfl (hb hbytes d47) rfl (i0_eq_t rfl) (by decide) rfl ?_
          refine iconstV X18.here hexec rfl 0 (hb hbytes d54) (by decide) ?_
          exact Steps.refl _)
        exact ⟨T18, some (.int 0), _, _, _, X18, rfl, rfl, rfl, (fun h => by cases h), ⟨0, rfl, q18.trans hh16, Or.inr ⟨rfl, fun q => he (iff.mpr q)⟩⟩, fun fs hl => c19.trans (X18.ireturnOut hexec hret rfl (Or.inr (Or.inl rfl)) (hb hbytes d55) hl)⟩
    · have c13 : Steps p.tables e below (s₁.setTop (entryFrame m #[.ref x, .ref y] 3)) (T11.setTop (mkF m 55 #[.val (.ref x), .val (.ref y), .val (.ref y)] [.int 0])) := c12.trans (by
        refine XS.icmpYes X11.here hexec rfl (pc0 := 33) rfl (hb hbytes d33) rfl (ii_ne_t hcd) (by decide) rfl ?_
        refine iconstV X11.here hexec rfl 0 (hb hbytes d54) (by decide) ?_
        exact Steps.refl _)
      exact ⟨T11, some (.int 0), _, _, _, X11, rfl, rfl, rfl, (fun h => by cases h), ⟨0, rfl, hh11, Or.inr ⟨rfl, Cod.dif hx.2.2.2.2.1 hy.2.2.2.2.1 hcd⟩⟩, fun fs hl => c13.trans (X11.ireturnOut hexec hret rfl (Or.inr (Or.inl rfl)) (hb hbytes d55) hl)⟩
theorem pays {l : Launch} {R : Room} {p : Program} {e : Env} {below : List Frame} {s : State} {sargs : Array Value} {len W : Nat} (x t : Addr) (V : Cell) (cd : Int32) (n : Nat) (f : Nat → Int32) (y t' : Addr) (V' : Cell) (cd' : Int32) (k : Nat) (g : Nat → Int32) (z : Int32) (htab : tab.before sargs s = true) (hfr : 2 ≤ R.frames) (hlo : W + 28 ≤ R.locals) :
    Back l R p e below s sargs yN len W (fun A₁ a₁ => A₁.cells + 0 ≤ R.cells ∧ A₁.slots + 0 ≤ R.slots ∧ P x t V cd n f y t' V' cd' k g z a₁ A₁.U) (fun A₁ _ v₁ B₁ => Says01 (SameT n f k g) v₁ A₁.U B₁.U ∧ B₁.locs = A₁.locs ++ [] ∧ B₁.cells = A₁.cells + 0 ∧ B₁.slots = A₁.slots + 0) :=
  (law l x t V cd n f y t' V' cd' k g z).pays htab hfr (by omega)
end SEq
end StrChars
namespace StrChars.Road
open Jvm Sem ClassFile Op Lib Jvm.Stand Jvm.Free Jvm.Free.XT
open Jvm.Lib.Cold (StaticIs)
/-- the words of String.equals(Object) -/
abbrev wordsEq : List Jvm.Cond := [.code SEq.yN SEq.yB 3 (some .boolean), .initialized ST, .classLink ST 10 ST, .fieldLink ST 38 ST "COMPACT_STRINGS" "Z", .fieldLink ST 15 ST "coder" "B", .fieldLink ST 9 ST "value" "[B", .methodLink ST 541 LEq.yN, .static LEq.yN, .code LEq.yN LEq.yB 3 (some .boolean), .initialized "java/lang/StringLatin1"]
theorem tabEq_of {a : Array Value} {s : State} (h : ∀ w ∈ wordsEq, w.before a s = true) : SEq.tab.before a s = true := by
  have hl : LEq.tab.before a s = true := unparts (wk h (.code LEq.yN LEq.yB 3 (some .boolean))) (wks h (.initialized LEq.yN.cls :: LEq.site))
  have q := consq hl h
  exact unparts (wk q (.code SEq.yN SEq.yB 3 (some .boolean))) (wks q (.initialized SEq.yN.cls :: SEq.site))
theorem movedEq {Z s : State} {a0 args : Array Value} (hZ : Z.Warmed39 s.vm) (hw : ∀ d ∈ wordsEq, d.before a0 Z = true) : ∀ d ∈ wordsEq, d.before args s = true := fun d hd => by
  have t : ∀ d ∈ wordsEq, (d.onTables && d.keepsFace) = true := by decide +kernel
  exact RoadKit.mv hZ (hw d hd) (t d hd)
/-- the road's facts of a String, as the laws ask it -/
theorem txt_of {Z U : State} {a0 : Array Value} {kI : Nat} (wi : (Jvm.Cond.instantiable ST kI).before a0 Z = true) (al : Z.vm.Alike U.vm) {x t : Addr} {kb : ClassId} {cs : List Int32} {cd N2 : Int32} {vs : List Value} (E : RoadKit.Exa Z U.heap x ST) (V : RoadKit.Fld Z U.heap x ST "value" "[B" (.ref t)) (C : RoadKit.Fld Z U.heap x ST "coder" "B" (.int cd)) (K : RoadKit.Arv Z U.heap t kb .byte N2 vs (.int 0)) (hc : CodA cs cd N2 vs) (hb : ∀ c ∈ cs, ¬ c < 0 ∧ ¬ (65535 : Int32) < c) (l2 : cs.length ≤ 4000) :
    ∃ A, Txt x t A cd cs.length (fun j => cs.getD j 0) U := by
  obtain ⟨A, K1, K2, K3, K4, K5, K6⟩ := K
  have hcod := hc.cod (by omega) K3 K5
  obtain ⟨D, fV, fC, hB, F1, F2, g1, g2, -, -⟩ := strObj wi al E V C
  exact ⟨A, ⟨_, hB.2.2.1, D, hB.1, rfl, by cases q : D.vm <;> first | rfl | exact absurd q (hB.2.1.2 _)⟩, Has.of hB F1 g1, Has.of hB F2 g2, ⟨K1.1, State.isArrayOf_alike al K1.2.1, K1.2.2, by rcases hcod with ⟨-, q, -⟩ | ⟨-, q, -⟩ <;> omega⟩, hcod, fun j hj => by
    have e : cs.getD j 0 = cs[j] := by simp [List.getD_eq_getElem?_getD, hj]
    show ¬ cs.getD j 0 < 0 ∧ ¬ 65535 < cs.getD j 0
    rw [e]; exact hb _ (List.getElem_mem _)⟩
theorem same_list (cs ds : List Int32) : SameT cs.length (fun j => cs.getD j 0) ds.length (fun j => ds.getD j 0) ↔ cs = ds := by
  constructor
  · rintro ⟨e, q⟩
    refine List.ext_getElem e fun j h1 h2 => ?_
    have := q j h1
    simpa [List.getD_eq_getElem?_getD, h1, h2] using this
  · rintro rfl
    exact ⟨rfl, fun _ _ => rfl⟩
/-- **equals(Object) OF TWO SUCH STRINGS**: 1 just where the chars are the same -/
theorem eqW {p : Program} {l : Launch} {e : Env} {R : Room} {s : State} {args : Array Value} {below : List Frame} {len W : Nat} {Z : State} {a0 : Array Value} {h : Heap} (hZ : Z.Warmed39 s.vm) (hw : ∀ d ∈ wordsEq, d.before a0 Z = true) {kI : Nat} (wi : (Jvm.Cond.instantiable ST kI).before a0 Z = true)
    {x t : Addr} {kb : ClassId} {cs : List Int32} {cd N2 : Int32} {vs : List Value} (E : RoadKit.Exa Z h x ST) (V : RoadKit.Fld Z h x ST "value" "[B" (.ref t)) (C : RoadKit.Fld Z h x ST "coder" "B" (.int cd)) (K : RoadKit.Arv Z h t kb .byte N2 vs (.int 0)) (hc : CodA cs cd N2 vs) (hb : ∀ c ∈ cs, ¬ c < 0 ∧ ¬ (65535 : Int32) < c) (l2 : cs.length ≤ 4000)
    {y t' : Addr} {kb' : ClassId} {ds : List Int32} {cd' N2' : Int32} {vs' : List Value} (E' : RoadKit.Exa Z h y ST) (V' : RoadKit.Fld Z h y ST "value" "[B" (.ref t')) (C' : RoadKit.Fld Z h y ST "coder" "B" (.int cd')) (K' : RoadKit.Arv Z h t' kb' .byte N2' vs' (.int 0)) (hc' : CodA ds cd' N2' vs') (hb' : ∀ c ∈ ds, ¬ c < 0 ∧ ¬ (65535 : Int32) < c) (l2' : ds.length ≤ 4000)
    {z : Int32} (S : RoadKit.Sta Z h ST "COMPACT_STRINGS" "Z" (.int z)) (hz : ¬ z = 0) (hfr : 2 ≤ R.frames) (hlo : W + 28 ≤ R.locals) :
    Back l R p e below s args (⟨"java/lang/String", "equals", "(Ljava/lang/Object;)Z"⟩ : MethodName) len W (fun P a => a = #[.ref x, .ref y] ∧ P.U.heap = h ∧ P.cells + 0 ≤ R.cells ∧ P.slots + 0 ≤ R.slots)
      (fun P _ v B => ∃ L, (((v = some (.int 1) ∧ cs = ds) ∨ (v = some (.int 0) ∧ ¬ cs = ds)) ∧ L = [] ∧ B.U.heap = h) ∧ B.locs = P.locs ++ L ∧ B.cells = P.cells + 0 ∧ B.slots = P.slots + 0) := by
  intro m meth c P g ig mk a X hg hsize hdg hW hn hp'
  obtain ⟨rfl, rfl, r1, r2⟩ := hp'
  have al : Z.vm.Alike P.U.vm := hZ.alike.trans X.warmed.alike
  obtain ⟨A, hx⟩ := txt_of wi al E V C K hc hb l2
  obtain ⟨A', hy⟩ := txt_of wi al E' V' C' K' hc' hb' l2'
  obtain ⟨v, B, X', ⟨⟨w, hv, hh, hq⟩, hl, hk, hs⟩, st⟩ := SEq.pays x t A cd cs.length (fun j => cs.getD j 0) y t' A' cd' ds.length (fun j => ds.getD j 0) z (tabEq_of (movedEq hZ hw)) hfr hlo m meth c P g ig mk _ X hg hsize hdg hW hn ⟨r1, r2, rfl, hx, hy, sta_is al S, hz⟩
  refine ⟨v, B, X', ⟨[], ⟨?_, rfl, hh⟩, hl, hk, hs⟩, st⟩
  rcases hq with ⟨rfl, q⟩ | ⟨rfl, q⟩
  · exact Or.inl ⟨hv, (same_list cs ds).mp q⟩
  · exact Or.inr ⟨hv, fun e => q ((same_list cs ds).mpr e)⟩
end StrChars.Road
end Jvm.Pilot.@@N@@

namespace Jvm.Pilot.@@N@@
open Jvm Jvm.ClassFile Sem Op Lib Jvm.Free Jvm.Stand Jvm.LawKit Jvm.RoadKit Bundle Jvm.Pilot.@@N@@.Jvm.D
theorem own_hws {Z : State} {a0 : Array Value} (hw : ∀ d ∈ tables_1, d.before a0 Z = true) : ∀ d ∈ StrChars.Road.words, d.before a0 Z = true := fun d hd => hw d ((by decide +kernel : ∀ d ∈ StrChars.Road.words, d ∈ tables_1) d hd)
theorem own_heq {Z : State} {a0 : Array Value} (hw : ∀ d ∈ tables_1, d.before a0 Z = true) : ∀ d ∈ StrChars.Road.wordsEq, d.before a0 Z = true := fun d hd => hw d ((by decide +kernel : ∀ d ∈ StrChars.Road.wordsEq, d ∈ tables_1) d hd)
def own_eqs (cs ds : List Int32) : Int32 := if cs = ds then 1 else 0
theorem own_up {cs : List Int32} (h : ∀ c ∈ cs, ¬ c < 0 ∧ ¬ (255 : Int32) < c) : ∀ c ∈ cs, ¬ c < 0 ∧ ¬ (65535 : Int32) < c := fun c hc => ⟨(h c hc).1, fun q => (h c hc).2 (by rw [Int32.lt_iff_toInt_lt] at q ⊢; have e1 : (65535 : Int32).toInt = 65535 := rfl; have e2 : (255 : Int32).toInt = 255 := rfl; omega)⟩
abbrev EL1 : List (String × Nat) := [("java/lang/String", 7)]
theorem own_EW {Z : State} {a0 : Array Value} (hw : ∀ d ∈ tables_1, d.before a0 Z = true) : EW Z a0 EL1 := (EW.cons (hw _ (List.mem_of_getElem? (i := 18) rfl)) (by decide +kernel) EW.nil)
theorem own_wSin : ∀ a ∈ Bundle.stringAtoms, a ∈ tables_1 := by decide +kernel
theorem own_wS {Z : State} {a0 : Array Value} (hw : ∀ d ∈ tables_1, d.before a0 Z = true) : ∀ a ∈ Bundle.stringAtoms, a.before a0 Z = true := fun a h => hw a (own_wSin a h)
theorem own_backS {p : Program} {l : Launch} {e : Env} {R : Room} {s : State} {args : Array Value} {below : List Frame} {Z : State} {a0 : Array Value} {EL : List (String × Nat)} {h : Heap} {vm0 : Vm} {sf : List Addr} {y : MethodName} {bytes : ByteArray} {maxL : Nat} {ret : Option FieldType} {rm : Room} {len W : Nat} {as' : Array Value} {Q : Option Value → Heap → List Loc → Prop}
    (hM : MetFree l y (head1 [Cond.code y bytes maxL ret] rm) (fun a U => a = as' ∧ Z.Warmed39 U.vm ∧ U.heap = h ∧ CHv Z EL U.vm h ∧ ∀ x ∈ sf, Safe Z EL U.vm h x) (fun _ _ _ _ _ => True) (fun _ U o U' => ∃ v L, o = .returned v ∧ Q v U'.heap L ∧ CHr Z EL U.vm U.heap U'.vm U'.heap ∧ ReturnedEndW U o U' L rm.cells rm.slots))
    (hZ : Z.Warmed39 vm0) (wc : (Cond.code y bytes maxL ret).before a0 Z = true) (wz : (Cond.initialized y.cls).before a0 Z = true) (hf : rm.frames + 1 ≤ R.frames) (hl : W + (maxL + 11) + rm.locals ≤ R.locals) (hEL : EW Z a0 EL) (H : CHv Z EL vm0 h) (hsf : ∀ x ∈ sf, Safe Z EL vm0 h x) (hlt : ∀ x ∈ sf, x < h.size) :
    BackS l R p e below (s.setVm vm0) args y len W (fun A a => a = as' ∧ A.U.heap = h ∧ A.cells + rm.cells ≤ R.cells ∧ A.slots + rm.slots ≤ R.slots)
      (fun A _ v B => ∃ L, Q v B.U.heap L ∧ B.locs = A.locs ++ L ∧ B.cells = A.cells + rm.cells ∧ B.slots = A.slots + rm.slots ∧ CHr Z EL vm0 h B.U.vm B.U.heap) := by
  have key : ∀ {m : MethodId} {meth : Method} {c : Code} {A : Pt}, Stand p l e R (s.setVm vm0) m args below meth c A.U A.locs A.cells A.slots → CHr Z EL vm0 h A.U.vm h := fun Y => CHv.at Y hZ hEL H
  refine BackS.of_freeW (bytes := bytes) (maxL := maxL) (ret := ret) (E := fun _ first o t L k n => k = rm.cells ∧ n = rm.slots ∧ (∃ v, o = .returned v ∧ Q v t.heap L) ∧ CHr Z EL first.vm first.heap t.vm t.heap) hM hf hl ?_ ?_ (fun _ _ _ _ _ _ _ _ _ => trivial) ?_ ?_
  · intro m meth c A a Y hp
    have hU : Z.Warmed39 A.U.vm := wtrans (s := s.setVm vm0) hZ Y.warmed
    exact ⟨by show (Cond.and _ .tt).before a A.U = true; rw [Cond.before_and, mv hU wc]; rfl, mv hU wc, mv hU wz, hp.2.2.1, hp.2.2.2⟩
  · intro m meth c A a g mk Y hp
    exact ⟨hp.1, wtrans (s := s.setVm vm0) hZ Y.warmed, hp.2.1, (key Y).1, fun x hx => (key Y).safe (hlt x hx) (hsf x hx)⟩
  · rintro _ _ _ _ ⟨v, L, h1, h2, h3, h4⟩
    exact ⟨L, _, _, h4, rfl, rfl, ⟨v, h1, h2⟩, h3⟩
  · rintro m meth c A a g mk v t L k n Y hp _ _ ⟨e1, e2, ⟨v', e3, e4⟩, e5⟩
    cases e3; subst e1 e2
    refine ⟨L, e4, rfl, rfl, rfl, (key Y).trans ?_⟩
    rw [← hp.2.1]; exact e5
def own_cs (n x y : Int32) : List Int32 := if n = 0 then [] else if n = 1 then [x] else [x, y]
def own_same (n1 n2 a0 a1 b0 b1 : Int32) : Int32 := if n1 = n2 ∧ (n1 < 1 ∨ a0 = b0) ∧ (n1 < 2 ∨ a1 = b1) then 1 else 0
theorem own_all1 {p1 p2 : Int32} (h1 : ¬ p1 < 0 ∧ ¬ (255 : Int32) < p1) (h2 : ¬ p2 < 0 ∧ ¬ (255 : Int32) < p2) : ∀ c ∈ ([p1] : List Int32), ¬ c < 0 ∧ ¬ (255 : Int32) < c := fun c hc => by
  simp only [List.mem_cons, List.not_mem_nil, or_false] at hc
  subst hc; exact h1
theorem own_all2 {p1 p2 : Int32} (h1 : ¬ p1 < 0 ∧ ¬ (255 : Int32) < p1) (h2 : ¬ p2 < 0 ∧ ¬ (255 : Int32) < p2) : ∀ c ∈ ([p1, p2] : List Int32), ¬ c < 0 ∧ ¬ (255 : Int32) < c := fun c hc => by
  simp only [List.mem_cons, List.not_mem_nil, or_false] at hc
  rcases hc with rfl | rfl
  · exact h1
  · exact h2
theorem own_cod0 : StrChars.Road.CodA ([] : List Int32) 0 (0 : Int32) [] := Or.inl ⟨rfl, rfl, rfl, fun c hc => absurd hc (List.not_mem_nil)⟩
theorem own_eq0 {cs ds : List Int32} (h : ¬ cs = ds) : own_eqs cs ds = (0 : Int32) := if_neg h
theorem own_eq1 {cs ds : List Int32} (h : cs = ds) : ¬ (own_eqs cs ds = (0 : Int32)) := by rw [own_eqs, if_pos h]; decide
theorem own_notinst {Z : State} {a0 : Array Value} {C S K : String} {n : Nat} (w1 : (Jvm.Cond.superclass C S).before a0 Z = true) (w2 : (Jvm.Cond.noSuperclass S).before a0 Z = true) (wi : (Jvm.Cond.instantiable K n).before a0 Z = true) (h1 : C ≠ K) (h2 : S ≠ K) :
    ∃ c t, Z.vm.findClass C = some c ∧ Z.vm.findClass K = some t ∧ Z.vm.assignable c t = false := by
  obtain ⟨t, kt, g1, g2, g3, g4, -⟩ := Cond.instantiable_spec wi
  obtain ⟨c, c1⟩ := found_sup w1
  obtain ⟨p, k, kp, s1, s2, s3, s4, s5, -, s7⟩ := Cond.superclass_spec c1 w1
  obtain ⟨cS, kS, r1, r2, r3, -⟩ := Cond.noSuperclass_spec w2
  cases r1.symm.trans s1
  have e1 := ids_ne c1 g1 h1
  have e2 := ids_ne s1 g1 h2
  have gi : kt.isInterface = false := by
    rw [Bool.or_eq_false_iff] at g4; exact g4.1
  have nS : ∀ fuel, Z.vm.isSubclassAux fuel p t = false := fun fuel => by
    cases fuel with
    | zero => rfl
    | succ f => simp [Vm.isSubclassAux, e2, r2, r3]
  have nC : ∀ fuel, Z.vm.isSubclassAux fuel c t = false := fun fuel => by
    cases fuel with
    | zero => rfl
    | succ f => simp [Vm.isSubclassAux, e1, s2, s4, nS]
  refine ⟨c, t, c1, g1, ?_⟩
  show Z.vm.assignableAux (255 + 1) c t = false
  simp [Vm.assignableAux, e1, s2, g2, s5, g3, gi, Vm.isSubclass, nC]
theorem own_lit4 (x : Int32) (h0 : 0 ≤ x.toInt) (h1 : x.toInt < 4) : x = (0 : Int32) ∨ x = (1 : Int32) ∨ x = (2 : Int32) ∨ x = (3 : Int32) := by
  obtain ⟨n, hn⟩ : ∃ n : Nat, x.toInt = n := ⟨x.toInt.toNat, by omega⟩
  have : n = 0 ∨ n = 1 ∨ n = 2 ∨ n = 3 := by omega
  rcases this with rfl | rfl | rfl | rfl
  · exact Or.inl (Int32.toInt_inj.mp hn)
  · exact Or.inr (Or.inl (Int32.toInt_inj.mp hn))
  · exact Or.inr (Or.inr (Or.inl (Int32.toInt_inj.mp hn)))
  · exact Or.inr (Or.inr (Or.inr (Int32.toInt_inj.mp hn)))
theorem own_r3 (x n : Int32) (h : n = ((x &&& (3 : Int32)) % (3 : Int32))) : n = (0 : Int32) ∨ n = (1 : Int32) ∨ n = (2 : Int32) := by
  have d1 := c_mask x 3 2 (by decide) (by decide)
  rcases own_lit4 (x &&& (3 : Int32)) (by omega) (by omega) with q | q | q | q
  · rw [q] at h; exact Or.inl (h.trans (by decide))
  · rw [q] at h; exact Or.inr (Or.inl (h.trans (by decide)))
  · rw [q] at h; exact Or.inr (Or.inr (h.trans (by decide)))
  · rw [q] at h; exact Or.inl (h.trans (by decide))
theorem own_three {p n : Int32} (h : n = ((p &&& (3 : Int32)) % (3 : Int32))) : n = (0 : Int32) ∨ n = (1 : Int32) ∨ n = (2 : Int32) := own_r3 _ _ h
theorem own_three2 {p n : Int32} (h : n = ((((p.toUInt32 >>> ((2 : Int32) &&& 31).toUInt32).toInt32) &&& (3 : Int32)) % (3 : Int32))) : n = (0 : Int32) ∨ n = (1 : Int32) ∨ n = (2 : Int32) := own_r3 _ _ h
theorem own_mode {p n : Int32} (h : n = (((p.toUInt32 >>> ((4 : Int32) &&& 31).toUInt32).toInt32) &&& (3 : Int32))) : n = (0 : Int32) ∨ n = (1 : Int32) ∨ n = (2 : Int32) ∨ n = (3 : Int32) := by
  have d1 := c_mask ((p.toUInt32 >>> ((4 : Int32) &&& 31).toUInt32).toInt32) 3 2 (by decide) (by decide)
  rw [← h] at d1
  exact own_lit4 n (by omega) (by omega)
theorem own_and (x : Int32) : (¬ (x &&& (255 : Int32)) < 0 ∧ ¬ (255 : Int32) < (x &&& (255 : Int32))) ∧ nar .char (x &&& (255 : Int32)) = (x &&& (255 : Int32)) := by
  have d1 := c_mask x 255 8 (by decide) (by decide)
  refine ⟨⟨?_, ?_⟩, i2c_mask x⟩
  · rw [Int32.lt_iff_toInt_lt, d1, show (0 : Int32).toInt = 0 by decide]; omega
  · rw [Int32.lt_iff_toInt_lt, d1, show (255 : Int32).toInt = 255 by decide]; omega
theorem own_ch (x : Int32) : (¬ ((x &&& (255 : Int32)).toUInt32.toUInt16.toUInt32.toInt32) < 0 ∧ ¬ (255 : Int32) < ((x &&& (255 : Int32)).toUInt32.toUInt16.toUInt32.toInt32)) ∧ nar .char ((x &&& (255 : Int32)).toUInt32.toUInt16.toUInt32.toInt32) = ((x &&& (255 : Int32)).toUInt32.toUInt16.toUInt32.toInt32) := by
  rw [i2c_mask]; exact own_and x
theorem own_ch2 (x : Int32) : (¬ ((((x.toUInt32 >>> ((8 : Int32) &&& 31).toUInt32).toInt32) &&& (255 : Int32)).toUInt32.toUInt16.toUInt32.toInt32) < 0 ∧ ¬ (255 : Int32) < ((((x.toUInt32 >>> ((8 : Int32) &&& 31).toUInt32).toInt32) &&& (255 : Int32)).toUInt32.toUInt16.toUInt32.toInt32)) ∧ nar .char ((((x.toUInt32 >>> ((8 : Int32) &&& 31).toUInt32).toInt32) &&& (255 : Int32)).toUInt32.toUInt16.toUInt32.toInt32) = ((((x.toUInt32 >>> ((8 : Int32) &&& 31).toUInt32).toInt32) &&& (255 : Int32)).toUInt32.toUInt16.toUInt32.toInt32) := own_ch _
theorem own_law {n1 n2 a0 a1 b0 b1 : Int32} (g1 : n1 = (0 : Int32) ∨ n1 = (1 : Int32) ∨ n1 = (2 : Int32)) (g2 : n2 = (0 : Int32) ∨ n2 = (1 : Int32) ∨ n2 = (2 : Int32)) : own_eqs (own_cs n1 a0 a1) (own_cs n2 b0 b1) = own_same n1 n2 a0 a1 b0 b1 := by
  rcases g1 with rfl | rfl | rfl <;> rcases g2 with rfl | rfl | rfl <;> simp [own_eqs, own_cs, own_same] <;> decide
theorem own_law0 {n1 n2 a0 a1 b0 b1 v : Int32} (g1 : n1 = (0 : Int32) ∨ n1 = (1 : Int32) ∨ n1 = (2 : Int32)) (g2 : n2 = (0 : Int32) ∨ n2 = (1 : Int32) ∨ n2 = (2 : Int32)) (h : v = own_same n1 n2 a0 a1 b0 b1) (h0 : v = (0 : Int32)) : own_eqs (own_cs n1 a0 a1) (own_cs n2 b0 b1) = (0 : Int32) := by
  rw [own_law g1 g2, ← h, h0]
theorem own_law1 {n1 n2 a0 a1 b0 b1 v : Int32} (g1 : n1 = (0 : Int32) ∨ n1 = (1 : Int32) ∨ n1 = (2 : Int32)) (g2 : n2 = (0 : Int32) ∨ n2 = (1 : Int32) ∨ n2 = (2 : Int32)) (h : v = own_same n1 n2 a0 a1 b0 b1) (h0 : ¬ (v = (0 : Int32))) : own_eqs (own_cs n1 a0 a1) (own_cs n2 b0 b1) = (1 : Int32) := by
  rw [own_law g1 g2]
  unfold own_same at h ⊢
  split
  · rfl
  · rename_i q; rw [if_neg q] at h; exact absurd h h0

theorem own_wb {Z : State} {a0 : Array Value} (hw : ∀ d ∈ tables_1, d.before a0 Z = true) : (Jvm.Cond.arrayClass .byte).before a0 Z = true := (hw _ (List.mem_of_getElem? (i := 19) rfl))
theorem own_wi {Z : State} {a0 : Array Value} (hw : ∀ d ∈ tables_1, d.before a0 Z = true) : (Jvm.Cond.instantiable "java/lang/String" 4).before a0 Z = true := (hw _ (List.mem_of_getElem? (i := 5) rfl))
theorem ltA {a b : Nat} (h : @LT.lt Addr instLTNat a b) : @LT.lt Nat instLTNat a b := h
theorem ltN {a b : Nat} (h : @LT.lt Nat instLTNat a b) : @LT.lt Addr instLTNat a b := h
theorem neN {a b : Nat} (h : @Ne Nat a b) : @Ne Addr a b := h
abbrev GO (p : Program) (e : Env) (below : List Frame) (T : State) (g : JFrame) (t : State) : Prop := Steps p.tables e below (T.setTop g) t
theorem wd {Z : State} {a0 : Array Value} (hw : ∀ d ∈ tables_1, d.before a0 Z = true) (i : Nat) {d : Jvm.Cond} (h : tables_1[i]? = some d) : d.before a0 Z = true := hw _ (List.mem_of_getElem? h)
abbrev la0 (x0 : Addr) (x1 : Addr) (x2 : Int32) (x3 : Int32) : Array Slot := #[.val (.ref x0), .val (.ref x1), .val (.int x2), .val (.int x3), .val .null, .unset]
abbrev la1 (x0 : Int32) (x1 : Int32) (x2 : Int32) : Array Slot := #[.val (.int x0), .val (.int x1), .val (.int x2)]
abbrev la2 (x0 : Addr) (x1 : Addr) : Array Slot := #[.val (.ref x0), .val (.ref x1), .unset]
abbrev la3 (x0 : Addr) (x1 : Addr) (x2 : Addr) : Array Slot := #[.val (.ref x0), .val (.ref x1), .val (.ref x2)]
abbrev la4 (x0 : Addr) : Array Slot := #[.val (.ref x0), .val .null, .unset]
abbrev la5 (x0 : Int32) (x1 : Int32) (x2 : Int32) : Array Slot := #[.val (.int x0), .val (.int x1), .val (.int x2), .unset, .unset, .unset, .unset, .unset, .unset, .unset, .unset, .unset, .unset, .unset, .unset]
abbrev la6 (x0 : Int32) (x1 : Int32) (x2 : Int32) (x3 : Int32) : Array Slot := #[.val (.int x0), .val (.int x1), .val (.int x2), .val (.int x3), .unset, .unset, .unset, .unset, .unset, .unset, .unset, .unset, .unset, .unset, .unset]
abbrev la7 (x0 : Int32) (x1 : Int32) (x2 : Int32) (x3 : Int32) (x4 : Int32) : Array Slot := #[.val (.int x0), .val (.int x1), .val (.int x2), .val (.int x3), .val (.int x4), .unset, .unset, .unset, .unset, .unset, .unset, .unset, .unset, .unset, .unset]
abbrev la8 (x0 : Int32) (x1 : Int32) (x2 : Int32) (x3 : Int32) (x4 : Int32) (x5 : Int32) : Array Slot := #[.val (.int x0), .val (.int x1), .val (.int x2), .val (.int x3), .val (.int x4), .val (.int x5), .unset, .unset, .unset, .unset, .unset, .unset, .unset, .unset, .unset]
abbrev la9 (x0 : Int32) (x1 : Int32) (x2 : Int32) (x3 : Int32) (x4 : Int32) (x5 : Int32) (x6 : Int32) : Array Slot := #[.val (.int x0), .val (.int x1), .val (.int x2), .val (.int x3), .val (.int x4), .val (.int x5), .val (.int x6), .unset, .unset, .unset, .unset, .unset, .unset, .unset, .unset]
abbrev la10 (x0 : Int32) (x1 : Int32) (x2 : Int32) (x3 : Int32) (x4 : Int32) (x5 : Int32) (x6 : Int32) (x7 : Int32) : Array Slot := #[.val (.int x0), .val (.int x1), .val (.int x2), .val (.int x3), .val (.int x4), .val (.int x5), .val (.int x6), .val (.int x7), .unset, .unset, .unset, .unset, .unset, .unset, .unset]
abbrev la11 (x0 : Int32) (x1 : Int32) (x2 : Int32) (x3 : Int32) (x4 : Int32) (x5 : Int32) (x6 : Int32) (x7 : Int32) (x8 : Int32) : Array Slot := #[.val (.int x0), .val (.int x1), .val (.int x2), .val (.int x3), .val (.int x4), .val (.int x5), .val (.int x6), .val (.int x7), .val (.int x8), .unset, .unset, .unset, .unset, .unset, .unset]
abbrev la12 (x0 : Int32) (x1 : Int32) (x2 : Int32) (x3 : Int32) (x4 : Int32) (x5 : Int32) (x6 : Int32) (x7 : Int32) (x8 : Int32) (x9 : Int32) : Array Slot := #[.val (.int x0), .val (.int x1), .val (.int x2), .val (.int x3), .val (.int x4), .val (.int x5), .val (.int x6), .val (.int x7), .val (.int x8), .val (.int x9), .unset, .unset, .unset, .unset, .unset]
abbrev la13 (x0 : Int32) (x1 : Int32) (x2 : Int32) (x3 : Int32) (x4 : Int32) (x5 : Int32) (x6 : Int32) (x7 : Int32) (x8 : Int32) (x9 : Int32) (x10 : Addr) : Array Slot := #[.val (.int x0), .val (.int x1), .val (.int x2), .val (.int x3), .val (.int x4), .val (.int x5), .val (.int x6), .val (.int x7), .val (.int x8), .val (.int x9), .val (.ref x10), .unset, .unset, .unset, .unset]
abbrev la14 (x0 : Int32) (x1 : Int32) (x2 : Int32) (x3 : Int32) (x4 : Int32) (x5 : Int32) (x6 : Int32) (x7 : Int32) (x8 : Int32) (x9 : Int32) (x10 : Addr) (x11 : Addr) : Array Slot := #[.val (.int x0), .val (.int x1), .val (.int x2), .val (.int x3), .val (.int x4), .val (.int x5), .val (.int x6), .val (.int x7), .val (.int x8), .val (.int x9), .val (.ref x10), .val (.ref x11), .unset, .unset, .unset]
abbrev la15 (x0 : Int32) (x1 : Int32) (x2 : Int32) (x3 : Int32) (x4 : Int32) (x5 : Int32) (x6 : Int32) (x7 : Int32) (x8 : Int32) (x9 : Int32) (x10 : Addr) (x11 : Addr) (x12 : Addr) : Array Slot := #[.val (.int x0), .val (.int x1), .val (.int x2), .val (.int x3), .val (.int x4), .val (.int x5), .val (.int x6), .val (.int x7), .val (.int x8), .val (.int x9), .val (.ref x10), .val (.ref x11), .val (.ref x12), .unset, .unset]
abbrev la16 (x0 : Int32) (x1 : Int32) (x2 : Int32) (x3 : Int32) (x4 : Int32) (x5 : Int32) (x6 : Int32) (x7 : Int32) (x8 : Int32) (x9 : Int32) (x10 : Addr) (x11 : Addr) (x12 : Addr) (x13 : Int32) : Array Slot := #[.val (.int x0), .val (.int x1), .val (.int x2), .val (.int x3), .val (.int x4), .val (.int x5), .val (.int x6), .val (.int x7), .val (.int x8), .val (.int x9), .val (.ref x10), .val (.ref x11), .val (.ref x12), .val (.int x13), .unset]
abbrev la17 (x0 : Int32) (x1 : Int32) (x2 : Int32) (x3 : Int32) (x4 : Int32) (x5 : Int32) (x6 : Int32) (x7 : Int32) (x8 : Int32) (x9 : Int32) (x10 : Addr) (x11 : Addr) (x12 : Addr) (x13 : Int32) (x14 : Int32) : Array Slot := #[.val (.int x0), .val (.int x1), .val (.int x2), .val (.int x3), .val (.int x4), .val (.int x5), .val (.int x6), .val (.int x7), .val (.int x8), .val (.int x9), .val (.ref x10), .val (.ref x11), .val (.ref x12), .val (.int x13), .val (.int x14)]
abbrev la18 (x0 : Int32) (x1 : Int32) (x2 : Int32) (x3 : Int32) (x4 : Int32) (x5 : Int32) (x6 : Int32) (x7 : Int32) (x8 : Int32) (x9 : Int32) (x10 : Addr) (x11 : Addr) : Array Slot := #[.val (.int x0), .val (.int x1), .val (.int x2), .val (.int x3), .val (.int x4), .val (.int x5), .val (.int x6), .val (.int x7), .val (.int x8), .val (.int x9), .val (.ref x10), .val (.ref x11), .val .null, .unset, .unset]
abbrev la19 (x0 : Int32) (x1 : Int32) (x2 : Int32) (x3 : Int32) (x4 : Int32) (x5 : Int32) (x6 : Int32) (x7 : Int32) (x8 : Int32) (x9 : Int32) (x10 : Addr) (x11 : Addr) (x13 : Int32) : Array Slot := #[.val (.int x0), .val (.int x1), .val (.int x2), .val (.int x3), .val (.int x4), .val (.int x5), .val (.int x6), .val (.int x7), .val (.int x8), .val (.int x9), .val (.ref x10), .val (.ref x11), .val .null, .val (.int x13), .unset]
abbrev la20 (x0 : Int32) (x1 : Int32) (x2 : Int32) (x3 : Int32) (x4 : Int32) (x5 : Int32) (x6 : Int32) (x7 : Int32) (x8 : Int32) (x9 : Int32) (x10 : Addr) (x11 : Addr) (x13 : Int32) (x14 : Int32) : Array Slot := #[.val (.int x0), .val (.int x1), .val (.int x2), .val (.int x3), .val (.int x4), .val (.int x5), .val (.int x6), .val (.int x7), .val (.int x8), .val (.int x9), .val (.ref x10), .val (.ref x11), .val .null, .val (.int x13), .val (.int x14)]
theorem pd_0 : parseMethodDescriptor "([CIILjava/lang/Void;)V" = some ⟨[(.array .char), .int, .int, (.object "java/lang/Void")], none⟩ := by decide +kernel
theorem pd_1 : parseMethodDescriptor "([C)V" = some ⟨[(.array .char)], none⟩ := by decide +kernel
theorem pd_2 : parseMethodDescriptor "(Ljava/lang/Object;)Z" = some ⟨[(.object "java/lang/Object")], some .boolean⟩ := by decide +kernel
theorem pd_3 : parseMethodDescriptor "(ICC)Ljava/lang/String;" = some ⟨[.int, .char, .char], some (.object "java/lang/String")⟩ := by decide +kernel
theorem pd_4 : parseMethodDescriptor "(Ljava/lang/String;)V" = some ⟨[(.object "java/lang/String")], none⟩ := by decide +kernel
theorem pn_0 : plainName "java/lang/String" = true := by first | (simp [plainName, overriddenIn]; done) | decide +kernel
theorem pn_1 : plainName "com/example/casemax/casemax/xadd/BooleanVariableEqualsPinLaw" = true := by first | (simp [plainName, overriddenIn]; done) | decide +kernel
theorem pn_2 : plainName "com/example/casemax/casemax/xadd/BooleanVariable" = true := by first | (simp [plainName, overriddenIn]; done) | decide +kernel
theorem d3_0 : decode jdk_42_method_149_code 0 = .ok (.aload_n 0, 1) := by decide +kernel
theorem d3_1 : decode jdk_42_method_149_code 1 = .ok (.invokespecial 1, 3) := by decide +kernel
theorem d3_4 : decode jdk_42_method_149_code 4 = .ok (.iload_n 3, 1) := by decide +kernel
theorem d3_5 : decode jdk_42_method_149_code 5 = .ok (.ifCond .ne 22, 3) := by decide +kernel
theorem d3_8 : decode jdk_42_method_149_code 8 = .ok (.aload_n 0, 1) := by decide +kernel
theorem d3_9 : decode jdk_42_method_149_code 9 = .ok (.ldc 7, 2) := by decide +kernel
theorem d3_11 : decode jdk_42_method_149_code 11 = .ok (.getfield 9, 3) := by decide +kernel
theorem d3_14 : decode jdk_42_method_149_code 14 = .ok (.putfield 9, 3) := by decide +kernel
theorem d3_17 : decode jdk_42_method_149_code 17 = .ok (.aload_n 0, 1) := by decide +kernel
theorem d3_18 : decode jdk_42_method_149_code 18 = .ok (.ldc 7, 2) := by decide +kernel
theorem d3_20 : decode jdk_42_method_149_code 20 = .ok (.getfield 15, 3) := by decide +kernel
theorem d3_23 : decode jdk_42_method_149_code 23 = .ok (.putfield 15, 3) := by decide +kernel
theorem d3_26 : decode jdk_42_method_149_code 26 = .ok (.return_, 1) := by decide +kernel
theorem d2_0 : decode jdk_42_method_3_code 0 = .ok (.aload_n 0, 1) := by decide +kernel
theorem d2_1 : decode jdk_42_method_3_code 1 = .ok (.aload_n 1, 1) := by decide +kernel
theorem d2_2 : decode jdk_42_method_3_code 2 = .ok (.iconst 0, 1) := by decide +kernel
theorem d2_3 : decode jdk_42_method_3_code 3 = .ok (.aload_n 1, 1) := by decide +kernel
theorem d2_4 : decode jdk_42_method_3_code 4 = .ok (.arraylength, 1) := by decide +kernel
theorem d2_5 : decode jdk_42_method_3_code 5 = .ok (.aconst_null, 1) := by decide +kernel
theorem d2_6 : decode jdk_42_method_3_code 6 = .ok (.invokespecial 27, 3) := by decide +kernel
theorem d2_9 : decode jdk_42_method_3_code 9 = .ok (.return_, 1) := by decide +kernel
theorem d1_0 : decode method_2_code 0 = .ok (.iload_n 0, 1) := by decide +kernel
theorem d1_1 : decode method_2_code 1 = .ok (.ifCond .ne 14, 3) := by decide +kernel
theorem d1_4 : decode method_2_code 4 = .ok (.new 7, 3) := by decide +kernel
theorem d1_7 : decode method_2_code 7 = .ok (.dup, 1) := by decide +kernel
theorem d1_8 : decode method_2_code 8 = .ok (.iconst 0, 1) := by decide +kernel
theorem d1_9 : decode method_2_code 9 = .ok (.newarray .char, 2) := by decide +kernel
theorem d1_11 : decode method_2_code 11 = .ok (.invokespecial 9, 3) := by decide +kernel
theorem d1_14 : decode method_2_code 14 = .ok (.areturn, 1) := by decide +kernel
theorem d1_15 : decode method_2_code 15 = .ok (.iload_n 0, 1) := by decide +kernel
theorem d1_16 : decode method_2_code 16 = .ok (.iconst 1, 1) := by decide +kernel
theorem d1_17 : decode method_2_code 17 = .ok (.if_icmp .ne 18, 3) := by decide +kernel
theorem d1_20 : decode method_2_code 20 = .ok (.new 7, 3) := by decide +kernel
theorem d1_23 : decode method_2_code 23 = .ok (.dup, 1) := by decide +kernel
theorem d1_24 : decode method_2_code 24 = .ok (.iconst 1, 1) := by decide +kernel
theorem d1_25 : decode method_2_code 25 = .ok (.newarray .char, 2) := by decide +kernel
theorem d1_27 : decode method_2_code 27 = .ok (.dup, 1) := by decide +kernel
theorem d1_28 : decode method_2_code 28 = .ok (.iconst 0, 1) := by decide +kernel
theorem d1_29 : decode method_2_code 29 = .ok (.iload_n 1, 1) := by decide +kernel
theorem d1_30 : decode method_2_code 30 = .ok (.castore, 1) := by decide +kernel
theorem d1_31 : decode method_2_code 31 = .ok (.invokespecial 9, 3) := by decide +kernel
theorem d1_34 : decode method_2_code 34 = .ok (.areturn, 1) := by decide +kernel
theorem d1_35 : decode method_2_code 35 = .ok (.new 7, 3) := by decide +kernel
theorem d1_38 : decode method_2_code 38 = .ok (.dup, 1) := by decide +kernel
theorem d1_39 : decode method_2_code 39 = .ok (.iconst 2, 1) := by decide +kernel
theorem d1_40 : decode method_2_code 40 = .ok (.newarray .char, 2) := by decide +kernel
theorem d1_42 : decode method_2_code 42 = .ok (.dup, 1) := by decide +kernel
theorem d1_43 : decode method_2_code 43 = .ok (.iconst 0, 1) := by decide +kernel
theorem d1_44 : decode method_2_code 44 = .ok (.iload_n 1, 1) := by decide +kernel
theorem d1_45 : decode method_2_code 45 = .ok (.castore, 1) := by decide +kernel
theorem d1_46 : decode method_2_code 46 = .ok (.dup, 1) := by decide +kernel
theorem d1_47 : decode method_2_code 47 = .ok (.iconst 1, 1) := by decide +kernel
theorem d1_48 : decode method_2_code 48 = .ok (.iload_n 2, 1) := by decide +kernel
theorem d1_49 : decode method_2_code 49 = .ok (.castore, 1) := by decide +kernel
theorem d1_50 : decode method_2_code 50 = .ok (.invokespecial 9, 3) := by decide +kernel
theorem d1_53 : decode method_2_code 53 = .ok (.areturn, 1) := by decide +kernel
theorem d5_0 : decode prog_38_method_1_code 0 = .ok (.aload_n 0, 1) := by decide +kernel
theorem d5_1 : decode prog_38_method_1_code 1 = .ok (.invokespecial 1, 3) := by decide +kernel
theorem d5_4 : decode prog_38_method_1_code 4 = .ok (.aload_n 0, 1) := by decide +kernel
theorem d5_5 : decode prog_38_method_1_code 5 = .ok (.aload_n 1, 1) := by decide +kernel
theorem d5_6 : decode prog_38_method_1_code 6 = .ok (.putfield 7, 3) := by decide +kernel
theorem d5_9 : decode prog_38_method_1_code 9 = .ok (.return_, 1) := by decide +kernel
theorem d6_0 : decode prog_38_method_5_code 0 = .ok (.aload_n 1, 1) := by decide +kernel
theorem d6_1 : decode prog_38_method_5_code 1 = .ok (.instanceof 8, 3) := by decide +kernel
theorem d6_4 : decode prog_38_method_5_code 4 = .ok (.ifCond .eq 26, 3) := by decide +kernel
theorem d6_7 : decode prog_38_method_5_code 7 = .ok (.aload_n 1, 1) := by decide +kernel
theorem d6_8 : decode prog_38_method_5_code 8 = .ok (.checkcast 8, 3) := by decide +kernel
theorem d6_11 : decode prog_38_method_5_code 11 = .ok (.astore_n 2, 1) := by decide +kernel
theorem d6_12 : decode prog_38_method_5_code 12 = .ok (.aload_n 0, 1) := by decide +kernel
theorem d6_13 : decode prog_38_method_5_code 13 = .ok (.getfield 7, 3) := by decide +kernel
theorem d6_16 : decode prog_38_method_5_code 16 = .ok (.aload_n 2, 1) := by decide +kernel
theorem d6_17 : decode prog_38_method_5_code 17 = .ok (.getfield 7, 3) := by decide +kernel
theorem d6_20 : decode prog_38_method_5_code 20 = .ok (.invokevirtual 53, 3) := by decide +kernel
theorem d6_23 : decode prog_38_method_5_code 23 = .ok (.ifCond .eq 7, 3) := by decide +kernel
theorem d6_26 : decode prog_38_method_5_code 26 = .ok (.iconst 1, 1) := by decide +kernel
theorem d6_27 : decode prog_38_method_5_code 27 = .ok (.goto 4, 3) := by decide +kernel
theorem d6_31 : decode prog_38_method_5_code 31 = .ok (.ireturn, 1) := by decide +kernel
theorem d6_30 : decode prog_38_method_5_code 30 = .ok (.iconst 0, 1) := by decide +kernel
abbrev kS0 : String := "com/example/casemax/casemax/xadd/BooleanVariable"
def Qrm_si0 (Z : State) (a1 : Addr) (a2 : Addr) (u1 : Value) (u2 : Value) (h0 : Heap) (n0 : Nat) (v : Option Value) (h : Heap) (L : List Loc) : Prop := ∃ t : Addr, ∃ k : ClassId, v = none ∧ Fr n0 L ∧ Keep h0 h [a1] ∧ Exa Z h a1 "java/lang/String" ∧ Fld Z h a1 "java/lang/String" "coder" "B" (.int 0) ∧ Fld Z h a1 "java/lang/String" "value" "[B" (.ref t) ∧ Arv Z h t k .byte (0 : Int32) [] (.int 0)
theorem ef_rm_si0 (m : MethodId) (x0 : Addr) (x1 : Addr) (x2 : Int32) (x3 : Int32) : entryFrame m #[(.ref x0), (.ref x1), (.int x2), (.int x3), .null] 6 = mkF m 0 (la0 x0 x1 x2 x3) [] := by first | rfl | (simp [entryFrame, mkF, argsToLocals, Value.category]; done)
set_option maxRecDepth 65536 in
set_option maxHeartbeats 40000000 in
theorem rm_si0 (l : Launch) (Z : State) (a0 : Array Value) (hw : ∀ d ∈ tables_1, d.before a0 Z = true) (ws : List Jvm.Cond) (a1 : Addr) (a2 : Addr) (u1 : Value) (u2 : Value) (h0 : Heap) (n0 : Nat) (Z0 : n0 ≤ h0.size) (E1 : Exa Z h0 a1 "java/lang/String") (Fv1 : Fld Z h0 a1 "java/lang/String" "value" "[B" u1) (Fc1 : Fld Z h0 a1 "java/lang/String" "coder" "B" u2) (g1 : n0 ≤ a1) :
    MetFree l (⟨"java/lang/String", "<init>", "([CIILjava/lang/Void;)V"⟩ : MethodName) (head1 (Jvm.Cond.code (⟨"java/lang/String", "<init>", "([CIILjava/lang/Void;)V"⟩ : MethodName) jdk_42_method_149_code 6 none :: ws) ({ frames := 1, cells := 4, slots := 8, locals := 12 } : Room)) (fun a U => a = #[(.ref a1), (.ref a2), (.int 0), (.int 0), .null] ∧ Z.Warmed39 U.vm ∧ U.heap = h0 ∧ CHv Z EL1 U.vm h0 ∧ ∀ x ∈ ([a1] : List Addr), Safe Z EL1 U.vm h0 x) (fun _ _ _ _ _ => True) (fun _ U o U' => ∃ v L, o = .returned v ∧ Qrm_si0 Z a1 a2 u1 u2 h0 n0 v U'.heap L ∧ CHr Z EL1 U.vm U.heap U'.vm U'.heap ∧ ReturnedEndW U o U' L ({ frames := 1, cells := 4, slots := 8, locals := 12 } : Room).cells ({ frames := 1, cells := 4, slots := 8, locals := 12 } : Room).slots) := by
  refine MetFree.of_bodySF (plainFor_of_name pn_0) hisR ?_
  intro p e s m args below meth c s₁ Bd hml0 hP hK
  obtain ⟨rfl, hZ, hh, H0, sf⟩ := hP
  have hx := Bd.exec
  have hby := Bd.bytes
  have hml : c.maxLocals = 6 := hml0
  have hown : s.vm.findClass "java/lang/String" = some m.cls := findClass_of_methodNamed Bd.named
  have hnm := (name_of_methodNamed Bd.named Bd.method).1
  have X0 : Stand p l e ({ frames := 1, cells := 4, slots := 8, locals := 12 } : Room) (s.setVm s.vm) m #[(.ref a1), (.ref a2), (.int 0), (.int 0), .null] below meth c s₁ [] 0 0 := Stand.of_body Bd
  have hS0 : s.Since s.vm h0.size := (State.WarmedH.refl s).since _
  have C0 : CHr Z EL1 s.vm h0 s.vm h0 := CHr.refl H0
  have sf_a1 : Safe Z EL1 s.vm h0 a1 := sf _ (List.mem_of_getElem? (i := 0) rfl)
  have e0 : s₁.heap = h0 := by rw [← hh, Bd.state]; rfl
  have N0 := Fr.nil n0
  have pre0 : ∀ t, Steps p.tables e below (s₁.setTop (mkF m 0 (la0 a1 a2 (0 : Int32) (0 : Int32)) [])) t → Steps p.tables e below (s₁.setTop (entryFrame m #[(.ref a1), (.ref a2), (.int 0), (.int 0), .null] 6)) t := fun t k => castTop (ef_rm_si0 m a1 a2 ((0 : Int32)) ((0 : Int32))) k
  have lt_E1 := ltA E1.lt
  have lt_Fv1 := ltA Fv1.lt
  have lt_Fc1 := ltA Fc1.lt
  obtain ⟨T1, X1, e1, st1⟩ := initO X0 hx hZ hown (wd hw 15 rfl) (wd hw 16 rfl) (wd hw 17 rfl) e0 (g := (mkF m 1 (la0 a1 a2 (0 : Int32) (0 : Int32)) [(.ref a1)])) rfl (by rw [hml]; rfl) rfl (hb hby d3_1) (by decide) (W := 0) (by show 2 * 0 + _ ≤ _; exact Nat.le_of_eq rfl) (by decide)
  obtain ⟨sa2, T2, h2, kk2, sb2, sk2, X2, e2, E2, hS2, hk2, hZ2, hown2, A2, Fc2, Fv2, V2, lt2, ltb2, C2w, Lt2, ne2, st2⟩ := ldcCH X1 hx hZ hown (wd hw 18 rfl) (own_wS hw) e1 hS0 (by omega) (own_EW hw) (by decide) C0.1 (vs := []) (z := (0 : Int32)) (by decide +kernel) (by decide) (by decide) (g := (mkF m 9 (la0 a1 a2 (0 : Int32) (0 : Int32)) [(.ref a1)])) rfl (hb hby d3_9) (n := 0) (by decide) (by decide) (by decide) (by decide)
  have C3 : CHr Z EL1 s.vm h0 T2.vm h2 := C0.trans (C2w)
  have sz2 : h0.size ≤ h2.size := E2.1
  have lv2 := ltA lt2
  have lw2 := ltA ltb2
  have f4 : Safe Z EL1 T2.vm h2 a1 := (CHr.safe C2w (ltN (by omega)) sf_a1)
  have nx2_a1 := ne2 a1 f4
  obtain ⟨T5, X5, e5, st5⟩ := getF X2 hx hZ2 hown2 (host := "") (Or.inl (wd hw 24 rfl)) Via.refl e2 Fv2 (g := (mkF m 11 (la0 a1 a2 (0 : Int32) (0 : Int32)) [(.ref sa2), (.ref a1)])) rfl rfl (hb hby d3_11)
  have f6 : Fld Z h2 a1 "java/lang/String" "value" "[B" u1 := (Fv1.ext E2)
  have f7 : Exa Z h2 a1 "java/lang/String" := (E1.ext E2)
  obtain ⟨T8, h8, X8, e8, W8, st8⟩ := putF X5 hx hZ2 hown2 (host := "") (Or.inl (wd hw 24 rfl)) Via.refl e5 f6 f7 (Or.inr ⟨(wd hw 20 rfl), rfl, hnm⟩) (wd hw 5 rfl) (ty := (.array .byte)) (by decide) rfl rfl (g := (mkF m 14 (la0 a1 a2 (0 : Int32) (0 : Int32)) [(.ref sb2), (.ref a1)])) rfl rfl (hb hby d3_14)
  have N8 := Fr.snoc X8 N0 (by omega : n0 ≤ a1)
  have C9 : CHr Z EL1 s.vm h0 T2.vm h8 := C3.trans (CHr.wr W8 f4 C3.1)
  have sz8 : h2.size ≤ h8.size := Nat.le_of_eq W8.size.symm
  have f8 : Fld Z h8 a1 "java/lang/String" "value" "[B" (.ref sb2) := f6.same W8
  obtain ⟨sa10, T10, h10, kk10, sb10, sk10, X10, e10, E10, hS10, hk10, hZ10, hown10, A10, Fc10, Fv10, V10, lt10, ltb10, C10w, Lt10, ne10, st10⟩ := ldcCH X8 hx hZ2 hown2 (wd hw 18 rfl) (own_wS hw) e8 hS2 (by omega) (own_EW hw) (by decide) C9.1 (vs := []) (z := (0 : Int32)) (by decide +kernel) (by decide) (by decide) (g := (mkF m 18 (la0 a1 a2 (0 : Int32) (0 : Int32)) [(.ref a1)])) rfl (hb hby d3_18) (n := 0) (by decide) (by decide) (by decide) (by decide)
  have C11 : CHr Z EL1 s.vm h0 T10.vm h10 := C9.trans (C10w)
  have sz10 : h8.size ≤ h10.size := E10.1
  have lv10 := ltA lt10
  have lw10 := ltA ltb10
  have f12 : Safe Z EL1 T10.vm h10 a1 := (CHr.safe C10w (ltN (by omega)) (Safe.wr W8 f4 C3.1 f4))
  have nx10_a1 := ne10 a1 f12
  obtain ⟨T13, X13, e13, st13⟩ := getF X10 hx hZ10 hown10 (host := "") (Or.inl (wd hw 25 rfl)) Via.refl e10 Fc10 (g := (mkF m 20 (la0 a1 a2 (0 : Int32) (0 : Int32)) [(.ref sa10), (.ref a1)])) rfl rfl (hb hby d3_20)
  have f14 : Fld Z h10 a1 "java/lang/String" "coder" "B" u2 := (((Fc1.ext E2).other W8 (Or.inr (slot_ne (Or.inr (wd hw 21 rfl)) (Or.inr (wd hw 20 rfl)) (by decide) (t := .byte) (t' := (.array .byte)) (by decide) (by decide)))).ext E10)
  have f15 : Exa Z h10 a1 "java/lang/String" := ((f7.wr W8).ext E10)
  obtain ⟨T16, h16, X16, e16, W16, st16⟩ := putFN X13 hx hZ10 hown10 (wd hw 25 rfl) Via.refl e13 f14 f15 (Or.inr ⟨(wd hw 21 rfl), rfl, hnm⟩) (wd hw 5 rfl) (ty := .byte) (v' := (.int 0)) (by decide) rfl rfl (g := (mkF m 23 (la0 a1 a2 (0 : Int32) (0 : Int32)) [(.int 0), (.ref a1)])) rfl rfl (hb hby d3_23)
  have N16 := Fr.snoc X16 N8 (by omega : n0 ≤ a1)
  have C17 : CHr Z EL1 s.vm h0 T10.vm h16 := C11.trans (CHr.wr W16 f12 C11.1)
  have sz16 : h10.size ≤ h16.size := Nat.le_of_eq W16.size.symm
  have f16 : Fld Z h16 a1 "java/lang/String" "coder" "B" (.int 0) := f14.same W16
  have f18 : Exa Z h16 a1 "java/lang/String" := (f15.wr W16)
  have f19 : Fld Z h16 a1 "java/lang/String" "value" "[B" (.ref sb2) := ((f8.ext E10).other W16 (Or.inr (slot_ne (Or.inr (wd hw 20 rfl)) (Or.inr (wd hw 21 rfl)) (by decide) (t := (.array .byte)) (t' := .byte) (by decide) (by decide))))
  have f20 : Arv Z h16 sb2 sk2 .byte (0 : Int32) [] (.int 0) := (((V2.other W8 (Ne.symm nx2_a1.2)).ext E10).other W16 (Ne.symm nx2_a1.2))
  obtain ⟨fs, hr, hrun, hended, hE⟩ := X16.leaveW hS10 (by rw [e16]; omega) (v := none) (fun _ => rfl)
  have CE := C17.trans (CHv.at X16 hZ10 (own_EW hw) C17.1)
  refine ⟨_, _, pre0 _ ?_, hrun, hended, _, _, rfl, ?_, ?_, ⟨hE.1, hE.2.1, hE.2.2.1, hE.2.2.2.mono (by decide) (by decide)⟩⟩
  · show GO p e below s₁ (mkF m 0 (la0 a1 a2 (0 : Int32) (0 : Int32)) []) _
    refine XS.aloadN X0.here hx rfl (hb hby d3_0) rfl rfl ?_
    show GO p e below s₁ (mkF m 1 (la0 a1 a2 (0 : Int32) (0 : Int32)) [(.ref a1)]) _
    refine st1 _ ?_
    show GO p e below T1 (mkF m 4 (la0 a1 a2 (0 : Int32) (0 : Int32)) []) _
    refine XS.iloadN X1.here hx rfl (hb hby d3_4) rfl ?_
    show GO p e below T1 (mkF m 5 (la0 a1 a2 (0 : Int32) (0 : Int32)) [(.int 0)]) _
    refine XS.ifNo X1.here hx rfl (hb hby d3_5) rfl ((if0 _ _).trans (teq (rfl : (0 : Int32) = (0 : Int32))).2) ?_
    show GO p e below T1 (mkF m 8 (la0 a1 a2 (0 : Int32) (0 : Int32)) []) _
    refine XS.aloadN X1.here hx rfl (hb hby d3_8) rfl rfl ?_
    show GO p e below T1 (mkF m 9 (la0 a1 a2 (0 : Int32) (0 : Int32)) [(.ref a1)]) _
    refine st2 _ ?_
    show GO p e below T2 (mkF m 11 (la0 a1 a2 (0 : Int32) (0 : Int32)) [(.ref sa2), (.ref a1)]) _
    refine st5 _ ?_
    show GO p e below T5 (mkF m 14 (la0 a1 a2 (0 : Int32) (0 : Int32)) [(.ref sb2), (.ref a1)]) _
    refine st8 _ ?_
    show GO p e below T8 (mkF m 17 (la0 a1 a2 (0 : Int32) (0 : Int32)) []) _
    refine XS.aloadN X8.here hx rfl (hb hby d3_17) rfl rfl ?_
    show GO p e below T8 (mkF m 18 (la0 a1 a2 (0 : Int32) (0 : Int32)) [(.ref a1)]) _
    refine st10 _ ?_
    show GO p e below T10 (mkF m 20 (la0 a1 a2 (0 : Int32) (0 : Int32)) [(.ref sa10), (.ref a1)]) _
    refine st13 _ ?_
    show GO p e below T13 (mkF m 23 (la0 a1 a2 (0 : Int32) (0 : Int32)) [(.int 0), (.ref a1)]) _
    refine st16 _ ?_
    show GO p e below T16 (mkF m 26 (la0 a1 a2 (0 : Int32) (0 : Int32)) []) _
    exact X16.returnOut hx Bd.returns (hb hby d3_26) hr
  · show Qrm_si0 Z a1 a2 u1 u2 h0 n0 _ T16.heap _
    rw [e16]
    exact ⟨sb2, sk2, rfl, N16, (((((Keep.refl h0 [a1]).ext E2).wr W8 (Or.inl (List.mem_of_getElem? (i := 0) rfl))).ext E10).wr W16 (Or.inl (List.mem_of_getElem? (i := 0) rfl))), f18, f16, f19, f20⟩
  · show CHr Z EL1 s.vm s.heap T16.vm T16.heap
    rw [hh, e16]
    exact CE
def Qrm_si (Z : State) (a1 : Addr) (a2 : Addr) (u1 : Value) (u2 : Value) (k2 : ClassId) (v2 : List Value) (h0 : Heap) (n0 : Nat) (v : Option Value) (h : Heap) (L : List Loc) : Prop := ∃ t : Addr, ∃ k : ClassId, v = none ∧ Fr n0 L ∧ Keep h0 h [a1] ∧ Exa Z h a1 "java/lang/String" ∧ Fld Z h a1 "java/lang/String" "coder" "B" (.int 0) ∧ Fld Z h a1 "java/lang/String" "value" "[B" (.ref t) ∧ Arv Z h t k .byte (0 : Int32) [] (.int 0)
theorem ef_rm_si (m : MethodId) (x0 : Addr) (x1 : Addr) : entryFrame m #[(.ref x0), (.ref x1)] 2 = mkF m 0 #[.val (.ref x0), .val (.ref x1)] [] := by first | rfl | (simp [entryFrame, mkF, argsToLocals, Value.category]; done)
set_option maxRecDepth 65536 in
set_option maxHeartbeats 40000000 in
theorem rm_si (l : Launch) (Z : State) (a0 : Array Value) (hw : ∀ d ∈ tables_1, d.before a0 Z = true) (ws : List Jvm.Cond) (a1 : Addr) (a2 : Addr) (u1 : Value) (u2 : Value) (k2 : ClassId) (v2 : List Value) (h0 : Heap) (n0 : Nat) (Z0 : n0 ≤ h0.size) (E1 : Exa Z h0 a1 "java/lang/String") (Fv1 : Fld Z h0 a1 "java/lang/String" "value" "[B" u1) (Fc1 : Fld Z h0 a1 "java/lang/String" "coder" "B" u2) (V2 : Arv Z h0 a2 k2 .char (0 : Int32) v2 (.int 0)) (g1 : n0 ≤ a1) :
    MetFree l (⟨"java/lang/String", "<init>", "([C)V"⟩ : MethodName) (head1 (Jvm.Cond.code (⟨"java/lang/String", "<init>", "([C)V"⟩ : MethodName) jdk_42_method_3_code 2 none :: ws) ({ frames := 2, cells := 4, slots := 8, locals := 29 } : Room)) (fun a U => a = #[(.ref a1), (.ref a2)] ∧ Z.Warmed39 U.vm ∧ U.heap = h0 ∧ CHv Z EL1 U.vm h0 ∧ ∀ x ∈ ([a1] : List Addr), Safe Z EL1 U.vm h0 x) (fun _ _ _ _ _ => True) (fun _ U o U' => ∃ v L, o = .returned v ∧ Qrm_si Z a1 a2 u1 u2 k2 v2 h0 n0 v U'.heap L ∧ CHr Z EL1 U.vm U.heap U'.vm U'.heap ∧ ReturnedEndW U o U' L ({ frames := 2, cells := 4, slots := 8, locals := 29 } : Room).cells ({ frames := 2, cells := 4, slots := 8, locals := 29 } : Room).slots) := by
  refine MetFree.of_bodySF (plainFor_of_name pn_0) hisR ?_
  intro p e s m args below meth c s₁ Bd hml0 hP hK
  obtain ⟨rfl, hZ, hh, H0, sf⟩ := hP
  have hx := Bd.exec
  have hby := Bd.bytes
  have hml : c.maxLocals = 2 := hml0
  have hown : s.vm.findClass "java/lang/String" = some m.cls := findClass_of_methodNamed Bd.named
  have hnm := (name_of_methodNamed Bd.named Bd.method).1
  have X0 : Stand p l e ({ frames := 2, cells := 4, slots := 8, locals := 29 } : Room) (s.setVm s.vm) m #[(.ref a1), (.ref a2)] below meth c s₁ [] 0 0 := Stand.of_body Bd
  have hS0 : s.Since s.vm h0.size := (State.WarmedH.refl s).since _
  have C0 : CHr Z EL1 s.vm h0 s.vm h0 := CHr.refl H0
  have sf_a1 : Safe Z EL1 s.vm h0 a1 := sf _ (List.mem_of_getElem? (i := 0) rfl)
  have e0 : s₁.heap = h0 := by rw [← hh, Bd.state]; rfl
  have N0 := Fr.nil n0
  have pre0 : ∀ t, Steps p.tables e below (s₁.setTop (mkF m 0 #[.val (.ref a1), .val (.ref a2)] [])) t → Steps p.tables e below (s₁.setTop (entryFrame m #[(.ref a1), (.ref a2)] 2)) t := fun t k => castTop (ef_rm_si m a1 a2) k
  have lt_E1 := ltA E1.lt
  have lt_Fv1 := ltA Fv1.lt
  have lt_Fc1 := ltA Fc1.lt
  have lt_V2 := ltA V2.lt
  obtain ⟨cl21, Ar21, -, S21, M21, -, -⟩ := id V2
  -- pc 6: String.<init> by rm_si0
  obtain ⟨_, _, ⟨T22, L22, k22, n22⟩, -, X22w, hS22w, gr22, ⟨Lc22, hQ22, l22, y22, z22, C22w⟩, st22⟩ := X0.specialBackS hx (y := (⟨"java/lang/String", "<init>", "([CIILjava/lang/Void;)V"⟩ : MethodName)) rfl hown (mvT hZ (wd hw 11 rfl)) (mvT hZ (wd hw 12 rfl)) (mvT hZ (wd hw 14 rfl)) (by decide) (own_backS (W := 0) (rm_si0 l Z a0 hw [] a1 a2 u1 u2 h0 n0 (by omega) E1 Fv1 Fc1 (by first | assumption | decide | omega | exact neN (by omega))) hZ (wd hw 14 rfl) (wd hw 6 rfl) (by decide) (by decide) (own_EW hw) C0.1 (sfS sf_a1 sf0) (allS (ltN (by omega)) all0)) (g := (mkF m 6 #[.val (.ref a1), .val (.ref a2)] [.null, (.int 0), (.int 0), (.ref a2), (.ref a1)])) rfl (by rw [hml]; rfl) (Steps.refl _) (a := a1) (argsL := [(.ref a2), (.int 0), (.int 0), .null]) (rest := []) (lenOf pd_0 rfl) rfl (by show 2 * 0 + _ ≤ _; exact Nat.le_of_eq rfl) (hb hby d2_6) (fun _ _ => ⟨rfl, e0, (by decide : 0 + 4 ≤ _), (by decide : 0 + 8 ≤ _)⟩)
  dsimp only [Pt.U, Pt.locs, Pt.cells, Pt.slots] at X22w hS22w gr22 l22 y22 z22 st22 hQ22 C22w
  subst l22 y22 z22
  obtain ⟨X22, hS22, hZ22, hown22⟩ := rebS hS0 (by rw [e0]; omega) X22w hS22w gr22 hZ hown
  obtain ⟨h22, e22⟩ : ∃ z, T22.heap = z := ⟨_, rfl⟩
  rw [e22] at hQ22
  obtain ⟨t_22, k_22, rfl, N22q, K22, p22_0, p22_1, p22_2, p22_3⟩ := hQ22
  have N22 := Fr.app N0 N22q
  rw [e22] at C22w hS22
  have hk22 : h22.size ≤ h22.size := Nat.le_refl _
  have C23 : CHr Z EL1 s.vm h0 T22.vm h22 := C0.trans (C22w)
  have sz22 : h0.size ≤ h22.size := K22.1
  have lt22_0 := ltA p22_0.lt
  have lt22_3 := ltA p22_3.lt
  obtain ⟨fs, hr, hrun, hended, hE⟩ := X22.leaveW hS22 (by rw [e22]; omega) (v := none) (fun _ => rfl)
  have CE := C23.trans (CHv.at X22 hZ22 (own_EW hw) C23.1)
  refine ⟨_, _, pre0 _ ?_, hrun, hended, _, _, rfl, ?_, ?_, ⟨hE.1, hE.2.1, hE.2.2.1, hE.2.2.2.mono (by decide) (by decide)⟩⟩
  · show GO p e below s₁ (mkF m 0 #[.val (.ref a1), .val (.ref a2)] []) _
    refine XS.aloadN X0.here hx rfl (hb hby d2_0) rfl rfl ?_
    show GO p e below s₁ (mkF m 1 #[.val (.ref a1), .val (.ref a2)] [(.ref a1)]) _
    refine XS.aloadN X0.here hx rfl (hb hby d2_1) rfl rfl ?_
    show GO p e below s₁ (mkF m 2 #[.val (.ref a1), .val (.ref a2)] [(.ref a2), (.ref a1)]) _
    refine XS.iconst X0.here hx rfl (hb hby d2_2) ?_
    show GO p e below s₁ (mkF m 3 #[.val (.ref a1), .val (.ref a2)] [(.int 0), (.ref a2), (.ref a1)]) _
    refine XS.aloadN X0.here hx rfl (hb hby d2_3) rfl rfl ?_
    show GO p e below s₁ (mkF m 4 #[.val (.ref a1), .val (.ref a2)] [(.ref a2), (.int 0), (.ref a2), (.ref a1)]) _
    refine X0.arraylength hx (by rw [e0]; exact Ar21.1) (State.isArrayOf_alike hZ.alike Ar21.2.1) (g := (mkF m 4 #[.val (.ref a1), .val (.ref a2)] [(.ref a2), (.int 0), (.ref a2), (.ref a1)])) rfl rfl (hb hby d2_4) _ ?_
    rw [len_of S21 M21]
    show GO p e below s₁ (mkF m 5 #[.val (.ref a1), .val (.ref a2)] [(.int 0), (.int 0), (.ref a2), (.ref a1)]) _
    refine XS.aconstNull X0.here hx rfl (hb hby d2_5) ?_
    show GO p e below s₁ (mkF m 6 #[.val (.ref a1), .val (.ref a2)] [.null, (.int 0), (.int 0), (.ref a2), (.ref a1)]) _
    refine st22.trans ?_
    show GO p e below T22 (mkF m 9 #[.val (.ref a1), .val (.ref a2)] []) _
    exact X22.returnOut hx Bd.returns (hb hby d2_9) hr
  · show Qrm_si Z a1 a2 u1 u2 k2 v2 h0 n0 _ T22.heap _
    rw [e22]
    exact ⟨t_22, k_22, rfl, N22, ((Keep.refl h0 [a1]).trans K22 (allS (P := fun x => x ∈ _ ∨ _) (Or.inl (List.mem_of_getElem? (i := 0) rfl)) all0)), p22_0, p22_1, p22_2, p22_3⟩
  · show CHr Z EL1 s.vm s.heap T22.vm T22.heap
    rw [hh, e22]
    exact CE
def Qrm_make (Z : State) (p0 : Int32) (p1 : Int32) (p2 : Int32) (z0 : Int32) (h0 : Heap) (n0 : Nat) (v : Option Value) (h : Heap) (L : List Loc) : Prop := ∃ r : Addr, ∃ t : Addr, ∃ k : ClassId, ∃ N : Int32, ∃ vs : List Value, v = some (.ref r) ∧ Fr n0 L ∧ Keep h0 h [] ∧ Exa Z h r "java/lang/String" ∧ Fld Z h r "java/lang/String" "coder" "B" (.int 0) ∧ Fld Z h r "java/lang/String" "value" "[B" (.ref t) ∧ Arv Z h t k .byte N vs (.int 0) ∧ h0.size ≤ r ∧ StrChars.Road.CodA (own_cs p0 p1 p2) 0 N vs ∧ (∀ c ∈ (own_cs p0 p1 p2), ¬ c < 0 ∧ ¬ (65535 : Int32) < c) ∧ ((own_cs p0 p1 p2)).length ≤ 4000
theorem ef_rm_make (m : MethodId) (x0 : Int32) (x1 : Int32) (x2 : Int32) : entryFrame m #[(.int x0), (.int x1), (.int x2)] 3 = mkF m 0 (la1 x0 x1 x2) [] := by first | rfl | (simp [entryFrame, mkF, argsToLocals, Value.category]; done)
set_option maxRecDepth 65536 in
set_option maxHeartbeats 40000000 in
theorem rm_make (l : Launch) (Z : State) (a0 : Array Value) (hw : ∀ d ∈ tables_1, d.before a0 Z = true) (ws : List Jvm.Cond) (p0 : Int32) (p1 : Int32) (p2 : Int32) (z0 : Int32) (h0 : Heap) (n0 : Nat) (Z0 : n0 ≤ h0.size) (O0 : Old Z n0 h0) (SZc : Sta Z Z.heap "java/lang/String" "COMPACT_STRINGS" "Z" (.int z0)) (hz0 : ¬ z0 = 0) (hp0 : p0 = (0 : Int32) ∨ p0 = (1 : Int32) ∨ p0 = (2 : Int32)) (hp1 : ¬ p1 < 0 ∧ ¬ (255 : Int32) < p1) (hp2 : ¬ p2 < 0 ∧ ¬ (255 : Int32) < p2) (hc1 : nar .char p1 = p1) (hc2 : nar .char p2 = p2) :
    MetFree l (⟨"com/example/casemax/casemax/xadd/BooleanVariableEqualsPinLaw", "make", "(ICC)Ljava/lang/String;"⟩ : MethodName) (head1 (Jvm.Cond.code (⟨"com/example/casemax/casemax/xadd/BooleanVariableEqualsPinLaw", "make", "(ICC)Ljava/lang/String;"⟩ : MethodName) method_2_code 3 (some (.object "java/lang/String")) :: ws) ({ frames := 4, cells := 6, slots := 12, locals := 66 } : Room)) (fun a U => a = #[(.int p0), (.int p1), (.int p2)] ∧ Z.Warmed39 U.vm ∧ U.heap = h0 ∧ CHv Z EL1 U.vm h0 ∧ ∀ x ∈ ([] : List Addr), Safe Z EL1 U.vm h0 x) (fun _ _ _ _ _ => True) (fun _ U o U' => ∃ v L, o = .returned v ∧ Qrm_make Z p0 p1 p2 z0 h0 n0 v U'.heap L ∧ CHr Z EL1 U.vm U.heap U'.vm U'.heap ∧ ReturnedEndW U o U' L ({ frames := 4, cells := 6, slots := 12, locals := 66 } : Room).cells ({ frames := 4, cells := 6, slots := 12, locals := 66 } : Room).slots) := by
  refine MetFree.of_bodySF (plainFor_of_name pn_1) hisR ?_
  intro p e s m args below meth c s₁ Bd hml0 hP hK
  obtain ⟨rfl, hZ, hh, H0, sf⟩ := hP
  have hx := Bd.exec
  have hby := Bd.bytes
  have hml : c.maxLocals = 3 := hml0
  have hown : s.vm.findClass "com/example/casemax/casemax/xadd/BooleanVariableEqualsPinLaw" = some m.cls := findClass_of_methodNamed Bd.named
  have hnm := (name_of_methodNamed Bd.named Bd.method).1
  have X0 : Stand p l e ({ frames := 4, cells := 6, slots := 12, locals := 66 } : Room) (s.setVm s.vm) m #[(.int p0), (.int p1), (.int p2)] below meth c s₁ [] 0 0 := Stand.of_body Bd
  have hS0 : s.Since s.vm h0.size := (State.WarmedH.refl s).since _
  have C0 : CHr Z EL1 s.vm h0 s.vm h0 := CHr.refl H0
  have e0 : s₁.heap = h0 := by rw [← hh, Bd.state]; rfl
  have N0 := Fr.nil n0
  have pre0 : ∀ t, Steps p.tables e below (s₁.setTop (mkF m 0 (la1 p0 p1 p2) [])) t → Steps p.tables e below (s₁.setTop (entryFrame m #[(.int p0), (.int p1), (.int p2)] 3)) t := fun t k => castTop (ef_rm_make m p0 p1 p2) k
  rcases hp0 with rfl | rfl | rfl
  · obtain ⟨T24, h24, X24, e24, E24, A24, D24, U24, st24⟩ := newO X0 hx hZ hown (wd hw 4 rfl) (wd hw 5 rfl) (wd hw 6 rfl) e0 (g := (mkF m 4 (la1 (0 : Int32) p1 p2) [])) rfl (hb hby d1_4) (by decide) (by decide)
    obtain ⟨b24, g24⟩ : ∃ z, z = h0.size := ⟨_, rfl⟩
    rw [← g24] at A24 D24 U24 st24
    have C25 : CHr Z EL1 s.vm h0 s.vm h24 := C0.trans (CHr.ext E24 C0.1)
    have sz24 : h0.size ≤ h24.size := E24.1
    have lt24 := ltA A24.lt
    have B24 : Safe Z EL1 s.vm h24 b24 := Safe.ext E24 C0.1 (Safe.new (by omega))
    have f26 : Fld Z h24 b24 "java/lang/String" "value" "[B" .null := D24 (Or.inr (wd hw 20 rfl)) (ty := (.array .byte)) (by decide)
    have f27 : Fld Z h24 b24 "java/lang/String" "coder" "B" (.int 0) := D24 (Or.inr (wd hw 21 rfl)) (ty := .byte) (by decide)
    obtain ⟨T28, h28, k28, X28, e28, E28, A28, st28⟩ := newP X24 hx hZ (wd hw 7 rfl) e24 (g := (mkF m 9 (la1 (0 : Int32) p1 p2) [(.int 0), (.ref b24), (.ref b24)])) rfl (hb hby d1_9) rfl (by decide) (cap := 0) (by decide) (by decide) (by decide) (by decide)
    obtain ⟨b28, g28⟩ : ∃ z, z = h24.size := ⟨_, rfl⟩
    rw [← g28] at A28 st28
    have C29 : CHr Z EL1 s.vm h0 s.vm h28 := C25.trans (CHr.ext E28 C25.1)
    have sz28 : h24.size ≤ h28.size := E28.1
    have lt28 := ltA A28.lt
    have V28 : Arv Z h28 b28 k28 .char (0 : Int32) [] (.int 0) := Arv.new A28 (by decide)
    -- pc 11: String.<init> by rm_si
    have f31 : Exa Z h28 b24 "java/lang/String" := (A24.ext E28)
    have f32 : Fld Z h28 b24 "java/lang/String" "value" "[B" .null := (f26.ext E28)
    have f33 : Fld Z h28 b24 "java/lang/String" "coder" "B" (.int 0) := (f27.ext E28)
    have f34 : Safe Z EL1 s.vm h28 b24 := (Safe.ext E28 C25.1 B24)
    obtain ⟨_, _, ⟨T30, L30, k30, n30⟩, -, X30w, hS30w, gr30, ⟨Lc30, hQ30, l30, y30, z30, C30w⟩, st30⟩ := X28.specialBackS hx (y := (⟨"java/lang/String", "<init>", "([C)V"⟩ : MethodName)) rfl hown (mvT hZ (wd hw 8 rfl)) (mvT hZ (wd hw 9 rfl)) (mvT hZ (wd hw 10 rfl)) (by decide) (own_backS (W := 1) (rm_si l Z a0 hw [] b24 b28 .null (.int 0) k28 [] h28 n0 (by omega) f31 f32 f33 V28 (by first | assumption | decide | omega | exact neN (by omega))) hZ (wd hw 10 rfl) (wd hw 6 rfl) (by decide) (by decide) (own_EW hw) C29.1 (sfS f34 sf0) (allS (ltN (by omega)) all0)) (g := (mkF m 11 (la1 (0 : Int32) p1 p2) [(.ref b28), (.ref b24), (.ref b24)])) rfl (by rw [hml]; rfl) (Steps.refl _) (a := b24) (argsL := [(.ref b28)]) (rest := [(.ref b24)]) (lenOf pd_1 rfl) rfl (by show 2 * 0 + _ ≤ _; exact Nat.le_of_eq rfl) (hb hby d1_11) (fun _ _ => ⟨rfl, e28, (by decide : 2 + 4 ≤ _), (by decide : 4 + 8 ≤ _)⟩)
    dsimp only [Pt.U, Pt.locs, Pt.cells, Pt.slots] at X30w hS30w gr30 l30 y30 z30 st30 hQ30 C30w
    subst l30 y30 z30
    obtain ⟨X30, hS30, hZ30, hown30⟩ := rebS hS0 (by rw [e28]; omega) X30w hS30w gr30 hZ hown
    obtain ⟨h30, e30⟩ : ∃ z, T30.heap = z := ⟨_, rfl⟩
    rw [e30] at hQ30
    obtain ⟨t_30, k_30, rfl, N30q, K30, p30_0, p30_1, p30_2, p30_3⟩ := hQ30
    have N30 := Fr.app N0 N30q
    rw [e30] at C30w hS30
    have hk30 : h30.size ≤ h30.size := Nat.le_refl _
    have C35 : CHr Z EL1 s.vm h0 T30.vm h30 := C29.trans (C30w)
    have sz30 : h28.size ≤ h30.size := K30.1
    have lt30_0 := ltA p30_0.lt
    have lt30_3 := ltA p30_3.lt
    obtain ⟨fs, hr, hrun, hended, hE⟩ := X30.leaveW hS30 (by rw [e30]; omega) (v := some (.ref b24)) (fun h => by rw [Bd.returns] at h; cases h)
    have CE := C35.trans (CHv.at X30 hZ30 (own_EW hw) C35.1)
    refine ⟨_, _, pre0 _ ?_, hrun, hended, _, _, rfl, ?_, ?_, ⟨hE.1, hE.2.1, hE.2.2.1, hE.2.2.2.mono (by decide) (by decide)⟩⟩
    · show GO p e below s₁ (mkF m 0 (la1 (0 : Int32) p1 p2) []) _
      refine XS.iloadN X0.here hx rfl (hb hby d1_0) rfl ?_
      show GO p e below s₁ (mkF m 1 (la1 (0 : Int32) p1 p2) [(.int 0)]) _
      refine XS.ifNo X0.here hx rfl (hb hby d1_1) rfl ((if0 _ _).trans (teq (rfl : (0 : Int32) = (0 : Int32))).2) ?_
      show GO p e below s₁ (mkF m 4 (la1 (0 : Int32) p1 p2) []) _
      refine st24 _ ?_
      show GO p e below T24 (mkF m 7 (la1 (0 : Int32) p1 p2) [(.ref b24)]) _
      refine XS.dup X24.here hx rfl (hb hby d1_7) rfl rfl ?_
      show GO p e below T24 (mkF m 8 (la1 (0 : Int32) p1 p2) [(.ref b24), (.ref b24)]) _
      refine XS.iconst X24.here hx rfl (hb hby d1_8) ?_
      show GO p e below T24 (mkF m 9 (la1 (0 : Int32) p1 p2) [(.int 0), (.ref b24), (.ref b24)]) _
      refine st28 _ ?_
      show GO p e below T28 (mkF m 11 (la1 (0 : Int32) p1 p2) [(.ref b28), (.ref b24), (.ref b24)]) _
      refine st30.trans ?_
      show GO p e below T30 (mkF m 14 (la1 (0 : Int32) p1 p2) [(.ref b24)]) _
      exact retOut X30 hx Bd.returns rfl (Or.inr (Or.inr (Or.inr (Or.inr ⟨rfl, rfl, rfl⟩)))) (hb hby d1_14) hr
    · show Qrm_make Z (0 : Int32) p1 p2 z0 h0 n0 _ T30.heap _
      rw [e30]
      exact ⟨b24, t_30, k_30, (0 : Int32), _, rfl, N30, ((((Keep.refl h0 []).ext E24).ext E28).trans K30 (allS (P := fun x => x ∈ _ ∨ _) (Or.inr (by omega)) all0)), p30_0, p30_1, p30_2, p30_3, (by omega), own_cod0, (fun c hc => absurd hc (List.not_mem_nil)), (Nat.zero_le _)⟩
    · show CHr Z EL1 s.vm s.heap T30.vm T30.heap
      rw [hh, e30]
      exact CE
  · obtain ⟨T36, h36, X36, e36, E36, A36, D36, U36, st36⟩ := newO X0 hx hZ hown (wd hw 4 rfl) (wd hw 5 rfl) (wd hw 6 rfl) e0 (g := (mkF m 20 (la1 (1 : Int32) p1 p2) [])) rfl (hb hby d1_20) (by decide) (by decide)
    obtain ⟨b36, g36⟩ : ∃ z, z = h0.size := ⟨_, rfl⟩
    rw [← g36] at A36 D36 U36 st36
    have C37 : CHr Z EL1 s.vm h0 s.vm h36 := C0.trans (CHr.ext E36 C0.1)
    have sz36 : h0.size ≤ h36.size := E36.1
    have lt36 := ltA A36.lt
    have B36 : Safe Z EL1 s.vm h36 b36 := Safe.ext E36 C0.1 (Safe.new (by omega))
    have f38 : Fld Z h36 b36 "java/lang/String" "value" "[B" .null := D36 (Or.inr (wd hw 20 rfl)) (ty := (.array .byte)) (by decide)
    have f39 : Fld Z h36 b36 "java/lang/String" "coder" "B" (.int 0) := D36 (Or.inr (wd hw 21 rfl)) (ty := .byte) (by decide)
    obtain ⟨T40, h40, k40, X40, e40, E40, A40, st40⟩ := newP X36 hx hZ (wd hw 7 rfl) e36 (g := (mkF m 25 (la1 (1 : Int32) p1 p2) [(.int 1), (.ref b36), (.ref b36)])) rfl (hb hby d1_25) rfl (by decide) (cap := 1) (by decide) (by decide) (by decide) (by decide)
    obtain ⟨b40, g40⟩ : ∃ z, z = h36.size := ⟨_, rfl⟩
    rw [← g40] at A40 st40
    have C41 : CHr Z EL1 s.vm h0 s.vm h40 := C37.trans (CHr.ext E40 C37.1)
    have sz40 : h36.size ≤ h40.size := E40.1
    have lt40 := ltA A40.lt
    have V40 : Arv Z h40 b40 k40 .char (1 : Int32) [(.int 0)] (.int 0) := (Arv.new A40 (by decide)).pad (pad_rep [] (.int 0) 1)
    obtain ⟨cl42, Ar42, q42, S42, M42, H42, G42⟩ := id V40
    have hin42 : ¬ ((0 : Int32) < 0 ∨ cl42.slots.size ≤ ((0 : Int32)).toNatClampNeg) := inb_of S42 ⟨by decide, by decide⟩
    obtain ⟨T43, h43, X43, e43, W43, st43⟩ := stC X40 hx hZ e40 Ar42 (j := (0 : Int32)) hin42 (g := (mkF m 30 (la1 (1 : Int32) p1 p2) [(.int p1), (.int 0), (.ref b40), (.ref b40), (.ref b36), (.ref b36)])) rfl rfl (hb hby d1_30)
    have N43 := Fr.snoc X43 N0 (by omega : n0 ≤ b40)
    have C44 : CHr Z EL1 s.vm h0 s.vm h43 := C41.trans (CHr.wr W43 (Safe.arv hZ.alike V40 (by decide)) C41.1)
    have sz43 : h40.size ≤ h43.size := Nat.le_of_eq W43.size.symm
    have V43 : Arv Z h43 b40 k40 .char (1 : Int32) [(.int (nar .char p1))] (.int 0) := Arv.set Ar42 q42 S42 M42 H42 G42 (fits_nar_char _) W43 0 rfl (Nat.le_of_ble_eq_true rfl)
    have V45 : Arv Z h43 b40 k40 .char (1 : Int32) [(.int p1)] (.int 0) := by
      have q := V43
      rw [hc1] at q
      exact q
    have f46 : Exa Z h43 b36 "java/lang/String" := ((A36.ext E40).wr W43)
    have f47 : Fld Z h43 b36 "java/lang/String" "value" "[B" .null := ((f38.ext E40).other W43 (Or.inl (neN (by omega))))
    have f48 : Fld Z h43 b36 "java/lang/String" "coder" "B" (.int 0) := ((f39.ext E40).other W43 (Or.inl (neN (by omega))))
    have f49 : Old Z n0 h43 := (((O0.ext E36).ext E40).wr W43 (by omega))
    have S50 : Sta Z h43 "java/lang/String" "COMPACT_STRINGS" "Z" (.int z0) := SZc.ext f49.2
    have f51 : Safe Z EL1 s.vm h43 b36 := (Safe.wr W43 (Safe.arv hZ.alike V40 (by decide)) C41.1 (Safe.ext E40 C37.1 B36))
    obtain ⟨v52, _, ⟨T52, L52, k52, n52⟩, -, X52, ⟨Lc52, hQ52, l52, y52, z52⟩, st52⟩ := X43.specialBack hx (y := (⟨"java/lang/String", "<init>", "([C)V"⟩ : MethodName)) rfl hown (mvT hZ (wd hw 8 rfl)) (mvT hZ (wd hw 9 rfl)) (mvT hZ (wd hw 10 rfl)) (by decide) (StrChars.Road.backV (W := 1) hZ (own_hws hw) (kI := 4) (wd hw 5 rfl) (cs := ([p1] : List Int32)) (bs := ([p1] : List Int32).map (fun c => c.toInt8.toInt32)) (n := 1) (n0 := n0) (by omega) (by omega) f46 f47 f48 V45 S50 hz0 rfl rfl (by decide) (by decide) (own_all1 hp1 hp2) rfl (by decide) (by decide)) (g := (mkF m 31 (la1 (1 : Int32) p1 p2) [(.ref b40), (.ref b36), (.ref b36)])) rfl (by rw [hml]; rfl) (Steps.refl _) (a := b36) (argsL := [(.ref b40)]) (rest := [(.ref b36)]) (lenOf pd_1 rfl) rfl (by show 2 * 0 + _ ≤ _; exact Nat.le_of_eq rfl) (hb hby d1_31) (fun _ _ => ⟨rfl, e43, (by decide : 2 + 1 ≤ _), (by decide : 5 + 1 ≤ _)⟩)
    dsimp only [Pt.U, Pt.locs, Pt.cells, Pt.slots] at X52 l52 y52 z52 st52 hQ52
    subst l52 y52 z52
    obtain ⟨h52, e52⟩ : ∃ z, T52.heap = z := ⟨_, rfl⟩
    rw [e52] at hQ52
    obtain ⟨rfl, N52q, K52, A52, Fc52, t52, kb52, u52, lo52, nt52, Fv52, V52⟩ := hQ52
    have N52 := Fr.app N43 N52q
    have C53 : CHr Z EL1 s.vm h0 s.vm h52 := C44.trans (CHr.keep K52 (sfS f51 sf0) C44.1)
    have sz52 : h43.size ≤ h52.size := K52.1
    have lt52 := ltA V52.lt
    have hcd52 : StrChars.Road.CodA ([p1] : List Int32) 0 (1 : Int32) ((([p1] : List Int32).map (fun c => c.toInt8.toInt32)).map Value.int) := Or.inl ⟨rfl, rfl, rfl, fun c hc => ((own_all1 hp1 hp2) c hc).2⟩
    obtain ⟨fs, hr, hrun, hended, hE⟩ := X52.leaveW hS0 (by rw [e52]; omega) (v := some (.ref b36)) (fun h => by rw [Bd.returns] at h; cases h)
    have CE := C53.trans (CHv.at X52 hZ (own_EW hw) C53.1)
    refine ⟨_, _, pre0 _ ?_, hrun, hended, _, _, rfl, ?_, ?_, ⟨hE.1, hE.2.1, hE.2.2.1, hE.2.2.2.mono (by decide) (by decide)⟩⟩
    · show GO p e below s₁ (mkF m 0 (la1 (1 : Int32) p1 p2) []) _
      refine XS.iloadN X0.here hx rfl (hb hby d1_0) rfl ?_
      show GO p e below s₁ (mkF m 1 (la1 (1 : Int32) p1 p2) [(.int 1)]) _
      refine XS.ifYes X0.here hx rfl (pc0 := 1) (pc' := 15) rfl (hb hby d1_1) rfl ((if0 _ _).trans (feq ((by decide) : ¬ ((1 : Int32) = (0 : Int32)))).2) (by decide) (by decide) ?_
      show GO p e below s₁ (mkF m 15 (la1 (1 : Int32) p1 p2) []) _
      refine XS.iloadN X0.here hx rfl (hb hby d1_15) rfl ?_
      show GO p e below s₁ (mkF m 16 (la1 (1 : Int32) p1 p2) [(.int 1)]) _
      refine XS.iconst X0.here hx rfl (hb hby d1_16) ?_
      show GO p e below s₁ (mkF m 17 (la1 (1 : Int32) p1 p2) [(.int 1), (.int 1)]) _
      refine XS.icmpNo X0.here hx rfl (hb hby d1_17) rfl (teq (rfl : (1 : Int32) = (1 : Int32))).2 ?_
      show GO p e below s₁ (mkF m 20 (la1 (1 : Int32) p1 p2) []) _
      refine st36 _ ?_
      show GO p e below T36 (mkF m 23 (la1 (1 : Int32) p1 p2) [(.ref b36)]) _
      refine XS.dup X36.here hx rfl (hb hby d1_23) rfl rfl ?_
      show GO p e below T36 (mkF m 24 (la1 (1 : Int32) p1 p2) [(.ref b36), (.ref b36)]) _
      refine XS.iconst X36.here hx rfl (hb hby d1_24) ?_
      show GO p e below T36 (mkF m 25 (la1 (1 : Int32) p1 p2) [(.int 1), (.ref b36), (.ref b36)]) _
      refine st40 _ ?_
      show GO p e below T40 (mkF m 27 (la1 (1 : Int32) p1 p2) [(.ref b40), (.ref b36), (.ref b36)]) _
      refine XS.dup X40.here hx rfl (hb hby d1_27) rfl rfl ?_
      show GO p e below T40 (mkF m 28 (la1 (1 : Int32) p1 p2) [(.ref b40), (.ref b40), (.ref b36), (.ref b36)]) _
      refine XS.iconst X40.here hx rfl (hb hby d1_28) ?_
      show GO p e below T40 (mkF m 29 (la1 (1 : Int32) p1 p2) [(.int 0), (.ref b40), (.ref b40), (.ref b36), (.ref b36)]) _
      refine XS.iloadN X40.here hx rfl (hb hby d1_29) rfl ?_
      show GO p e below T40 (mkF m 30 (la1 (1 : Int32) p1 p2) [(.int p1), (.int 0), (.ref b40), (.ref b40), (.ref b36), (.ref b36)]) _
      refine st43 _ ?_
      show GO p e below T43 (mkF m 31 (la1 (1 : Int32) p1 p2) [(.ref b40), (.ref b36), (.ref b36)]) _
      refine st52.trans ?_
      show GO p e below T52 (mkF m 34 (la1 (1 : Int32) p1 p2) [(.ref b36)]) _
      exact retOut X52 hx Bd.returns rfl (Or.inr (Or.inr (Or.inr (Or.inr ⟨rfl, rfl, rfl⟩)))) (hb hby d1_34) hr
    · show Qrm_make Z (1 : Int32) p1 p2 z0 h0 n0 _ T52.heap _
      rw [e52]
      exact ⟨b36, t52, kb52, (1 : Int32), _, rfl, N52, (((((Keep.refl h0 []).ext E36).ext E40).wr W43 (Or.inr (by omega))).trans K52 (allS (P := fun x => x ∈ _ ∨ _) (Or.inr (by omega)) all0)), A52, Fc52, Fv52, V52, (by omega), hcd52, (own_up (own_all1 hp1 hp2)), (Nat.le_of_ble_eq_true rfl)⟩
    · show CHr Z EL1 s.vm s.heap T52.vm T52.heap
      rw [hh, e52]
      exact CE
  · obtain ⟨T54, h54, X54, e54, E54, A54, D54, U54, st54⟩ := newO X0 hx hZ hown (wd hw 4 rfl) (wd hw 5 rfl) (wd hw 6 rfl) e0 (g := (mkF m 35 (la1 (2 : Int32) p1 p2) [])) rfl (hb hby d1_35) (by decide) (by decide)
    obtain ⟨b54, g54⟩ : ∃ z, z = h0.size := ⟨_, rfl⟩
    rw [← g54] at A54 D54 U54 st54
    have C55 : CHr Z EL1 s.vm h0 s.vm h54 := C0.trans (CHr.ext E54 C0.1)
    have sz54 : h0.size ≤ h54.size := E54.1
    have lt54 := ltA A54.lt
    have B54 : Safe Z EL1 s.vm h54 b54 := Safe.ext E54 C0.1 (Safe.new (by omega))
    have f56 : Fld Z h54 b54 "java/lang/String" "value" "[B" .null := D54 (Or.inr (wd hw 20 rfl)) (ty := (.array .byte)) (by decide)
    have f57 : Fld Z h54 b54 "java/lang/String" "coder" "B" (.int 0) := D54 (Or.inr (wd hw 21 rfl)) (ty := .byte) (by decide)
    obtain ⟨T58, h58, k58, X58, e58, E58, A58, st58⟩ := newP X54 hx hZ (wd hw 7 rfl) e54 (g := (mkF m 40 (la1 (2 : Int32) p1 p2) [(.int 2), (.ref b54), (.ref b54)])) rfl (hb hby d1_40) rfl (by decide) (cap := 2) (by decide) (by decide) (by decide) (by decide)
    obtain ⟨b58, g58⟩ : ∃ z, z = h54.size := ⟨_, rfl⟩
    rw [← g58] at A58 st58
    have C59 : CHr Z EL1 s.vm h0 s.vm h58 := C55.trans (CHr.ext E58 C55.1)
    have sz58 : h54.size ≤ h58.size := E58.1
    have lt58 := ltA A58.lt
    have V58 : Arv Z h58 b58 k58 .char (2 : Int32) [(.int 0), (.int 0)] (.int 0) := (Arv.new A58 (by decide)).pad (pad_rep [] (.int 0) 2)
    obtain ⟨cl60, Ar60, q60, S60, M60, H60, G60⟩ := id V58
    have hin60 : ¬ ((0 : Int32) < 0 ∨ cl60.slots.size ≤ ((0 : Int32)).toNatClampNeg) := inb_of S60 ⟨by decide, by decide⟩
    obtain ⟨T61, h61, X61, e61, W61, st61⟩ := stC X58 hx hZ e58 Ar60 (j := (0 : Int32)) hin60 (g := (mkF m 45 (la1 (2 : Int32) p1 p2) [(.int p1), (.int 0), (.ref b58), (.ref b58), (.ref b54), (.ref b54)])) rfl rfl (hb hby d1_45)
    have N61 := Fr.snoc X61 N0 (by omega : n0 ≤ b58)
    have C62 : CHr Z EL1 s.vm h0 s.vm h61 := C59.trans (CHr.wr W61 (Safe.arv hZ.alike V58 (by decide)) C59.1)
    have sz61 : h58.size ≤ h61.size := Nat.le_of_eq W61.size.symm
    have V61 : Arv Z h61 b58 k58 .char (2 : Int32) [(.int (nar .char p1)), (.int 0)] (.int 0) := Arv.set Ar60 q60 S60 M60 H60 G60 (fits_nar_char _) W61 0 rfl (Nat.le_of_ble_eq_true rfl)
    obtain ⟨cl63, Ar63, q63, S63, M63, H63, G63⟩ := id V61
    have hin63 : ¬ ((1 : Int32) < 0 ∨ cl63.slots.size ≤ ((1 : Int32)).toNatClampNeg) := inb_of S63 ⟨by decide, by decide⟩
    obtain ⟨T64, h64, X64, e64, W64, st64⟩ := stC X61 hx hZ e61 Ar63 (j := (1 : Int32)) hin63 (g := (mkF m 49 (la1 (2 : Int32) p1 p2) [(.int p2), (.int 1), (.ref b58), (.ref b58), (.ref b54), (.ref b54)])) rfl rfl (hb hby d1_49)
    have N64 := Fr.snoc X64 N61 (by omega : n0 ≤ b58)
    have C65 : CHr Z EL1 s.vm h0 s.vm h64 := C62.trans (CHr.wr W64 (Safe.arv hZ.alike V61 (by decide)) C62.1)
    have sz64 : h61.size ≤ h64.size := Nat.le_of_eq W64.size.symm
    have V64 : Arv Z h64 b58 k58 .char (2 : Int32) [(.int (nar .char p1)), (.int (nar .char p2))] (.int 0) := Arv.set Ar63 q63 S63 M63 H63 G63 (fits_nar_char _) W64 1 rfl (Nat.le_of_ble_eq_true rfl)
    have V66 : Arv Z h64 b58 k58 .char (2 : Int32) [(.int p1), (.int p2)] (.int 0) := by
      have q := V64
      rw [hc1, hc2] at q
      exact q
    have f67 : Exa Z h64 b54 "java/lang/String" := (((A54.ext E58).wr W61).wr W64)
    have f68 : Fld Z h64 b54 "java/lang/String" "value" "[B" .null := (((f56.ext E58).other W61 (Or.inl (neN (by omega)))).other W64 (Or.inl (neN (by omega))))
    have f69 : Fld Z h64 b54 "java/lang/String" "coder" "B" (.int 0) := (((f57.ext E58).other W61 (Or.inl (neN (by omega)))).other W64 (Or.inl (neN (by omega))))
    have f70 : Old Z n0 h64 := ((((O0.ext E54).ext E58).wr W61 (by omega)).wr W64 (by omega))
    have S71 : Sta Z h64 "java/lang/String" "COMPACT_STRINGS" "Z" (.int z0) := SZc.ext f70.2
    have f72 : Safe Z EL1 s.vm h64 b54 := (Safe.wr W64 (Safe.arv hZ.alike V61 (by decide)) C62.1 (Safe.wr W61 (Safe.arv hZ.alike V58 (by decide)) C59.1 (Safe.ext E58 C55.1 B54)))
    obtain ⟨v73, _, ⟨T73, L73, k73, n73⟩, -, X73, ⟨Lc73, hQ73, l73, y73, z73⟩, st73⟩ := X64.specialBack hx (y := (⟨"java/lang/String", "<init>", "([C)V"⟩ : MethodName)) rfl hown (mvT hZ (wd hw 8 rfl)) (mvT hZ (wd hw 9 rfl)) (mvT hZ (wd hw 10 rfl)) (by decide) (StrChars.Road.backV (W := 1) hZ (own_hws hw) (kI := 4) (wd hw 5 rfl) (cs := ([p1, p2] : List Int32)) (bs := ([p1, p2] : List Int32).map (fun c => c.toInt8.toInt32)) (n := 2) (n0 := n0) (by omega) (by omega) f67 f68 f69 V66 S71 hz0 rfl rfl (by decide) (by decide) (own_all2 hp1 hp2) rfl (by decide) (by decide)) (g := (mkF m 50 (la1 (2 : Int32) p1 p2) [(.ref b58), (.ref b54), (.ref b54)])) rfl (by rw [hml]; rfl) (Steps.refl _) (a := b54) (argsL := [(.ref b58)]) (rest := [(.ref b54)]) (lenOf pd_1 rfl) rfl (by show 2 * 0 + _ ≤ _; exact Nat.le_of_eq rfl) (hb hby d1_50) (fun _ _ => ⟨rfl, e64, (by decide : 2 + 1 ≤ _), (by decide : 6 + 2 ≤ _)⟩)
    dsimp only [Pt.U, Pt.locs, Pt.cells, Pt.slots] at X73 l73 y73 z73 st73 hQ73
    subst l73 y73 z73
    obtain ⟨h73, e73⟩ : ∃ z, T73.heap = z := ⟨_, rfl⟩
    rw [e73] at hQ73
    obtain ⟨rfl, N73q, K73, A73, Fc73, t73, kb73, u73, lo73, nt73, Fv73, V73⟩ := hQ73
    have N73 := Fr.app N64 N73q
    have C74 : CHr Z EL1 s.vm h0 s.vm h73 := C65.trans (CHr.keep K73 (sfS f72 sf0) C65.1)
    have sz73 : h64.size ≤ h73.size := K73.1
    have lt73 := ltA V73.lt
    have hcd73 : StrChars.Road.CodA ([p1, p2] : List Int32) 0 (2 : Int32) ((([p1, p2] : List Int32).map (fun c => c.toInt8.toInt32)).map Value.int) := Or.inl ⟨rfl, rfl, rfl, fun c hc => ((own_all2 hp1 hp2) c hc).2⟩
    obtain ⟨fs, hr, hrun, hended, hE⟩ := X73.leaveW hS0 (by rw [e73]; omega) (v := some (.ref b54)) (fun h => by rw [Bd.returns] at h; cases h)
    have CE := C74.trans (CHv.at X73 hZ (own_EW hw) C74.1)
    refine ⟨_, _, pre0 _ ?_, hrun, hended, _, _, rfl, ?_, ?_, ⟨hE.1, hE.2.1, hE.2.2.1, hE.2.2.2.mono (by decide) (by decide)⟩⟩
    · show GO p e below s₁ (mkF m 0 (la1 (2 : Int32) p1 p2) []) _
      refine XS.iloadN X0.here hx rfl (hb hby d1_0) rfl ?_
      show GO p e below s₁ (mkF m 1 (la1 (2 : Int32) p1 p2) [(.int 2)]) _
      refine XS.ifYes X0.here hx rfl (pc0 := 1) (pc' := 15) rfl (hb hby d1_1) rfl ((if0 _ _).trans (feq ((by decide) : ¬ ((2 : Int32) = (0 : Int32)))).2) (by decide) (by decide) ?_
      show GO p e below s₁ (mkF m 15 (la1 (2 : Int32) p1 p2) []) _
      refine XS.iloadN X0.here hx rfl (hb hby d1_15) rfl ?_
      show GO p e below s₁ (mkF m 16 (la1 (2 : Int32) p1 p2) [(.int 2)]) _
      refine XS.iconst X0.here hx rfl (hb hby d1_16) ?_
      show GO p e below s₁ (mkF m 17 (la1 (2 : Int32) p1 p2) [(.int 1), (.int 2)]) _
      refine XS.icmpYes X0.here hx rfl (pc0 := 17) (pc' := 35) rfl (hb hby d1_17) rfl (feq ((by decide) : ¬ ((2 : Int32) = (1 : Int32)))).2 (by decide) (by decide) ?_
      show GO p e below s₁ (mkF m 35 (la1 (2 : Int32) p1 p2) []) _
      refine st54 _ ?_
      show GO p e below T54 (mkF m 38 (la1 (2 : Int32) p1 p2) [(.ref b54)]) _
      refine XS.dup X54.here hx rfl (hb hby d1_38) rfl rfl ?_
      show GO p e below T54 (mkF m 39 (la1 (2 : Int32) p1 p2) [(.ref b54), (.ref b54)]) _
      refine XS.iconst X54.here hx rfl (hb hby d1_39) ?_
      show GO p e below T54 (mkF m 40 (la1 (2 : Int32) p1 p2) [(.int 2), (.ref b54), (.ref b54)]) _
      refine st58 _ ?_
      show GO p e below T58 (mkF m 42 (la1 (2 : Int32) p1 p2) [(.ref b58), (.ref b54), (.ref b54)]) _
      refine XS.dup X58.here hx rfl (hb hby d1_42) rfl rfl ?_
      show GO p e below T58 (mkF m 43 (la1 (2 : Int32) p1 p2) [(.ref b58), (.ref b58), (.ref b54), (.ref b54)]) _
      refine XS.iconst X58.here hx rfl (hb hby d1_43) ?_
      show GO p e below T58 (mkF m 44 (la1 (2 : Int32) p1 p2) [(.int 0), (.ref b58), (.ref b58), (.ref b54), (.ref b54)]) _
      refine XS.iloadN X58.here hx rfl (hb hby d1_44) rfl ?_
      show GO p e below T58 (mkF m 45 (la1 (2 : Int32) p1 p2) [(.int p1), (.int 0), (.ref b58), (.ref b58), (.ref b54), (.ref b54)]) _
      refine st61 _ ?_
      show GO p e below T61 (mkF m 46 (la1 (2 : Int32) p1 p2) [(.ref b58), (.ref b54), (.ref b54)]) _
      refine XS.dup X61.here hx rfl (hb hby d1_46) rfl rfl ?_
      show GO p e below T61 (mkF m 47 (la1 (2 : Int32) p1 p2) [(.ref b58), (.ref b58), (.ref b54), (.ref b54)]) _
      refine XS.iconst X61.here hx rfl (hb hby d1_47) ?_
      show GO p e below T61 (mkF m 48 (la1 (2 : Int32) p1 p2) [(.int 1), (.ref b58), (.ref b58), (.ref b54), (.ref b54)]) _
      refine XS.iloadN X61.here hx rfl (hb hby d1_48) rfl ?_
      show GO p e below T61 (mkF m 49 (la1 (2 : Int32) p1 p2) [(.int p2), (.int 1), (.ref b58), (.ref b58), (.ref b54), (.ref b54)]) _
      refine st64 _ ?_
      show GO p e below T64 (mkF m 50 (la1 (2 : Int32) p1 p2) [(.ref b58), (.ref b54), (.ref b54)]) _
      refine st73.trans ?_
      show GO p e below T73 (mkF m 53 (la1 (2 : Int32) p1 p2) [(.ref b54)]) _
      exact retOut X73 hx Bd.returns rfl (Or.inr (Or.inr (Or.inr (Or.inr ⟨rfl, rfl, rfl⟩)))) (hb hby d1_53) hr
    · show Qrm_make Z (2 : Int32) p1 p2 z0 h0 n0 _ T73.heap _
      rw [e73]
      exact ⟨b54, t73, kb73, (2 : Int32), _, rfl, N73, ((((((Keep.refl h0 []).ext E54).ext E58).wr W61 (Or.inr (by omega))).wr W64 (Or.inr (by omega))).trans K73 (allS (P := fun x => x ∈ _ ∨ _) (Or.inr (by omega)) all0)), A73, Fc73, Fv73, V73, (by omega), hcd73, (own_up (own_all2 hp1 hp2)), (Nat.le_of_ble_eq_true rfl)⟩
    · show CHr Z EL1 s.vm s.heap T73.vm T73.heap
      rw [hh, e73]
      exact CE
def Qrm_bv (Z : State) (a1 : Addr) (a2 : Addr) (u1 : Value) (h0 : Heap) (n0 : Nat) (v : Option Value) (h : Heap) (L : List Loc) : Prop := v = none ∧ Fr n0 L ∧ Keep h0 h [a1] ∧ Exa Z h a1 kS0 ∧ Fld Z h a1 kS0 "name" "Ljava/lang/String;" (.ref a2)
theorem ef_rm_bv (m : MethodId) (x0 : Addr) (x1 : Addr) : entryFrame m #[(.ref x0), (.ref x1)] 2 = mkF m 0 #[.val (.ref x0), .val (.ref x1)] [] := by first | rfl | (simp [entryFrame, mkF, argsToLocals, Value.category]; done)
set_option maxRecDepth 65536 in
set_option maxHeartbeats 40000000 in
theorem rm_bv (l : Launch) (Z : State) (a0 : Array Value) (hw : ∀ d ∈ tables_1, d.before a0 Z = true) (ws : List Jvm.Cond) (a1 : Addr) (a2 : Addr) (u1 : Value) (h0 : Heap) (n0 : Nat) (Z0 : n0 ≤ h0.size) (E1 : Exa Z h0 a1 kS0) (F1 : Fld Z h0 a1 kS0 "name" "Ljava/lang/String;" u1) (g1 : n0 ≤ a1) :
    MetFree l (⟨kS0, "<init>", "(Ljava/lang/String;)V"⟩ : MethodName) (head1 (Jvm.Cond.code (⟨kS0, "<init>", "(Ljava/lang/String;)V"⟩ : MethodName) prog_38_method_1_code 2 none :: ws) ({ frames := 1, cells := 0, slots := 0, locals := 12 } : Room)) (fun a U => a = #[(.ref a1), (.ref a2)] ∧ Z.Warmed39 U.vm ∧ U.heap = h0) (fun _ _ _ _ _ => True) (fun _ U o U' => ∃ v L, o = .returned v ∧ Qrm_bv Z a1 a2 u1 h0 n0 v U'.heap L ∧ FrameEnd U o U' L ({ frames := 1, cells := 0, slots := 0, locals := 12 } : Room).cells ({ frames := 1, cells := 0, slots := 0, locals := 12 } : Room).slots) := by
  refine MetFree.of_bodySF (plainFor_of_name pn_2) hisR ?_
  intro p e s m args below meth c s₁ Bd hml0 hP hK
  obtain ⟨rfl, hZ, hh⟩ := hP
  have hx := Bd.exec
  have hby := Bd.bytes
  have hml : c.maxLocals = 2 := hml0
  have hown : s.vm.findClass kS0 = some m.cls := findClass_of_methodNamed Bd.named
  have hnm := (name_of_methodNamed Bd.named Bd.method).1
  have X0 : Stand p l e ({ frames := 1, cells := 0, slots := 0, locals := 12 } : Room) s m #[(.ref a1), (.ref a2)] below meth c s₁ [] 0 0 := Stand.of_body Bd
  have e0 : s₁.heap = h0 := by rw [← hh, Bd.state]; rfl
  have N0 := Fr.nil n0
  have pre0 : ∀ t, Steps p.tables e below (s₁.setTop (mkF m 0 #[.val (.ref a1), .val (.ref a2)] [])) t → Steps p.tables e below (s₁.setTop (entryFrame m #[(.ref a1), (.ref a2)] 2)) t := fun t k => castTop (ef_rm_bv m a1 a2) k
  have lt_E1 := ltA E1.lt
  have lt_F1 := ltA F1.lt
  obtain ⟨T75, X75, e75, st75⟩ := initO X0 hx hZ hown (wd hw 32 rfl) (wd hw 16 rfl) (wd hw 17 rfl) e0 (g := (mkF m 1 #[.val (.ref a1), .val (.ref a2)] [(.ref a1)])) rfl (by rw [hml]; rfl) rfl (hb hby d5_1) (by decide) (W := 0) (by show 2 * 0 + _ ≤ _; exact Nat.le_of_eq rfl) (by decide)
  obtain ⟨T76, h76, X76, e76, W76, st76⟩ := putF X75 hx hZ hown (host := "") (Or.inl (wd hw 33 rfl)) Via.refl e75 F1 E1 (Or.inr ⟨(wd hw 34 rfl), rfl, hnm⟩) (wd hw 27 rfl) (ty := (.object "java/lang/String")) (by decide) rfl rfl (g := (mkF m 6 #[.val (.ref a1), .val (.ref a2)] [(.ref a2), (.ref a1)])) rfl rfl (hb hby d5_6)
  have N76 := Fr.snoc X76 N0 (by omega : n0 ≤ a1)
  have sz76 : h0.size ≤ h76.size := Nat.le_of_eq W76.size.symm
  have f76 : Fld Z h76 a1 kS0 "name" "Ljava/lang/String;" (.ref a2) := F1.same W76
  have f77 : Exa Z h76 a1 kS0 := (E1.wr W76)
  obtain ⟨fs, hr, hrun, hended, hW, hsame⟩ := X76.leave (v := none) (fun _ => rfl)
  refine ⟨_, _, pre0 _ ?_, hrun, hended, _, _, rfl, ?_, ⟨_, rfl⟩, hW, hsame.mono (by decide) (by decide)⟩
  · show GO p e below s₁ (mkF m 0 #[.val (.ref a1), .val (.ref a2)] []) _
    refine XS.aloadN X0.here hx rfl (hb hby d5_0) rfl rfl ?_
    show GO p e below s₁ (mkF m 1 #[.val (.ref a1), .val (.ref a2)] [(.ref a1)]) _
    refine st75 _ ?_
    show GO p e below T75 (mkF m 4 #[.val (.ref a1), .val (.ref a2)] []) _
    refine XS.aloadN X75.here hx rfl (hb hby d5_4) rfl rfl ?_
    show GO p e below T75 (mkF m 5 #[.val (.ref a1), .val (.ref a2)] [(.ref a1)]) _
    refine XS.aloadN X75.here hx rfl (hb hby d5_5) rfl rfl ?_
    show GO p e below T75 (mkF m 6 #[.val (.ref a1), .val (.ref a2)] [(.ref a2), (.ref a1)]) _
    refine st76 _ ?_
    show GO p e below T76 (mkF m 9 #[.val (.ref a1), .val (.ref a2)] []) _
    exact X76.returnOut hx Bd.returns (hb hby d5_9) hr
  · show Qrm_bv Z a1 a2 u1 h0 n0 _ T76.heap _
    rw [e76]
    exact ⟨rfl, N76, ((Keep.refl h0 [a1]).wr W76 (Or.inl (List.mem_of_getElem? (i := 0) rfl))), f77, f76⟩
def Qrm_eqb (Z : State) (a1 : Addr) (a2 : Addr) (z0 : Int32) (x1 : Addr) (t1 : Addr) (k1 : ClassId) (N1 : Int32) (vs1 : List Value) (cs1 : List Int32) (x2 : Addr) (t2 : Addr) (k2 : ClassId) (N2 : Int32) (vs2 : List Value) (cs2 : List Int32) (h0 : Heap) (n0 : Nat) (v : Option Value) (h : Heap) (L : List Loc) : Prop := v = some (.int (own_eqs cs1 cs2)) ∧ Fr n0 L ∧ h = h0
theorem ef_rm_eqb (m : MethodId) (x0 : Addr) (x1 : Addr) : entryFrame m #[(.ref x0), (.ref x1)] 3 = mkF m 0 (la2 x0 x1) [] := by first | rfl | (simp [entryFrame, mkF, argsToLocals, Value.category]; done)
set_option maxRecDepth 65536 in
set_option maxHeartbeats 40000000 in
theorem rm_eqb (l : Launch) (Z : State) (a0 : Array Value) (hw : ∀ d ∈ tables_1, d.before a0 Z = true) (ws : List Jvm.Cond) (a1 : Addr) (a2 : Addr) (z0 : Int32) (x1 : Addr) (t1 : Addr) (k1 : ClassId) (N1 : Int32) (vs1 : List Value) (cs1 : List Int32) (x2 : Addr) (t2 : Addr) (k2 : ClassId) (N2 : Int32) (vs2 : List Value) (cs2 : List Int32) (h0 : Heap) (n0 : Nat) (Z0 : n0 ≤ h0.size) (O0 : Old Z n0 h0) (E2 : Exa Z h0 a2 kS0) (F1 : Fld Z h0 a1 kS0 "name" "Ljava/lang/String;" (.ref x1)) (F2 : Fld Z h0 a2 kS0 "name" "Ljava/lang/String;" (.ref x2)) (Es1 : Exa Z h0 x1 "java/lang/String") (Fc1 : Fld Z h0 x1 "java/lang/String" "coder" "B" (.int 0)) (Fv1 : Fld Z h0 x1 "java/lang/String" "value" "[B" (.ref t1)) (Vs1 : Arv Z h0 t1 k1 .byte N1 vs1 (.int 0)) (Es2 : Exa Z h0 x2 "java/lang/String") (Fc2 : Fld Z h0 x2 "java/lang/String" "coder" "B" (.int 0)) (Fv2 : Fld Z h0 x2 "java/lang/String" "value" "[B" (.ref t2)) (Vs2 : Arv Z h0 t2 k2 .byte N2 vs2 (.int 0)) (SZc : Sta Z Z.heap "java/lang/String" "COMPACT_STRINGS" "Z" (.int z0)) (hz0 : ¬ z0 = 0) (hcd1 : StrChars.Road.CodA cs1 0 N1 vs1) (hbd1 : ∀ c ∈ cs1, ¬ c < 0 ∧ ¬ (65535 : Int32) < c) (hl1 : cs1.length ≤ 4000) (hcd2 : StrChars.Road.CodA cs2 0 N2 vs2) (hbd2 : ∀ c ∈ cs2, ¬ c < 0 ∧ ¬ (65535 : Int32) < c) (hl2 : cs2.length ≤ 4000) :
    MetFree l (⟨kS0, "equals", "(Ljava/lang/Object;)Z"⟩ : MethodName) (head1 (Jvm.Cond.code (⟨kS0, "equals", "(Ljava/lang/Object;)Z"⟩ : MethodName) prog_38_method_5_code 3 (some .boolean) :: ws) ({ frames := 2, cells := 0, slots := 0, locals := 28 } : Room)) (fun a U => a = #[(.ref a1), (.ref a2)] ∧ Z.Warmed39 U.vm ∧ U.heap = h0) (fun _ _ _ _ _ => True) (fun _ U o U' => ∃ v L, o = .returned v ∧ Qrm_eqb Z a1 a2 z0 x1 t1 k1 N1 vs1 cs1 x2 t2 k2 N2 vs2 cs2 h0 n0 v U'.heap L ∧ FrameEnd U o U' L ({ frames := 2, cells := 0, slots := 0, locals := 28 } : Room).cells ({ frames := 2, cells := 0, slots := 0, locals := 28 } : Room).slots) := by
  refine MetFree.of_bodySF (plainFor_of_name pn_2) hisR ?_
  intro p e s m args below meth c s₁ Bd hml0 hP hK
  obtain ⟨rfl, hZ, hh⟩ := hP
  have hx := Bd.exec
  have hby := Bd.bytes
  have hml : c.maxLocals = 3 := hml0
  have hown : s.vm.findClass kS0 = some m.cls := findClass_of_methodNamed Bd.named
  have hnm := (name_of_methodNamed Bd.named Bd.method).1
  have X0 : Stand p l e ({ frames := 2, cells := 0, slots := 0, locals := 28 } : Room) s m #[(.ref a1), (.ref a2)] below meth c s₁ [] 0 0 := Stand.of_body Bd
  have e0 : s₁.heap = h0 := by rw [← hh, Bd.state]; rfl
  have N0 := Fr.nil n0
  have pre0 : ∀ t, Steps p.tables e below (s₁.setTop (mkF m 0 (la2 a1 a2) [])) t → Steps p.tables e below (s₁.setTop (entryFrame m #[(.ref a1), (.ref a2)] 3)) t := fun t k => castTop (ef_rm_eqb m a1 a2) k
  have lt_E2 := ltA E2.lt
  have lt_F1 := ltA F1.lt
  have lt_F2 := ltA F2.lt
  have lt_Es1 := ltA Es1.lt
  have lt_Fc1 := ltA Fc1.lt
  have lt_Fv1 := ltA Fv1.lt
  have lt_Vs1 := ltA Vs1.lt
  have lt_Es2 := ltA Es2.lt
  have lt_Fc2 := ltA Fc2.lt
  have lt_Fv2 := ltA Fv2.lt
  have lt_Vs2 := ltA Vs2.lt
  obtain ⟨T78, X78, e78, st78⟩ := instY X0 hx hZ hown (wd hw 40 rfl) e0 (Ins.self E2) (g := (mkF m 1 (la2 a1 a2) [(.ref a2)])) rfl rfl (hb hby d6_1)
  obtain ⟨T79, X79, e79, st79⟩ := castY X78 hx hZ hown (wd hw 40 rfl) e78 (Ins.self E2) (g := (mkF m 8 (la2 a1 a2) [(.ref a2)])) rfl rfl (hb hby d6_8)
  obtain ⟨T80, X80, e80, st80⟩ := getF X79 hx hZ hown (host := "") (Or.inl (wd hw 33 rfl)) Via.refl e79 F1 (g := (mkF m 13 (la3 a1 a2 a2) [(.ref a1)])) rfl rfl (hb hby d6_13)
  obtain ⟨T81, X81, e81, st81⟩ := getF X80 hx hZ hown (host := "") (Or.inl (wd hw 33 rfl)) Via.refl e80 F2 (g := (mkF m 17 (la3 a1 a2 a2) [(.ref a2), (.ref x1)])) rfl rfl (hb hby d6_17)
  have S82 : Sta Z h0 "java/lang/String" "COMPACT_STRINGS" "Z" (.int z0) := SZc.ext O0.2
  obtain ⟨cq83, kq83, q83a, q83b, q83c⟩ := isOf hZ e81 Es1
  obtain ⟨v83, _, ⟨T83, L83, k83, n83⟩, -, X83, ⟨Lc83, hQ83, l83, y83, z83⟩, st83⟩ := X81.virtualBack hx (y := (⟨"java/lang/String", "equals", "(Ljava/lang/Object;)Z"⟩ : MethodName)) (z := (⟨"java/lang/String", "equals", "(Ljava/lang/Object;)Z"⟩ : MethodName)) hown (mvT hZ (wd hw 42 rfl)) (mvT hZ (wd hw 43 rfl)) (notFace_of_selects (args := #[]) (mvT hZ (wd hw 45 rfl))) (mvT hZ (wd hw 45 rfl)) (mvT hZ (wd hw 44 rfl)) (by decide) (StrChars.Road.eqW (W := 0) hZ (own_heq hw) (kI := 4) (wd hw 5 rfl) Es1 Fv1 Fc1 Vs1 hcd1 hbd1 hl1 Es2 Fv2 Fc2 Vs2 hcd2 hbd2 hl2 S82 hz0 (by decide) (by decide)) q83a q83c (g := (mkF m 20 (la3 a1 a2 a2) [(.ref x2), (.ref x1)])) rfl (by rw [hml]; rfl) (Steps.refl _) (argsL := [(.ref x2)]) (rest := []) (lenOf pd_2 rfl) rfl (by show 2 * 0 + _ ≤ _; exact Nat.le_of_eq rfl) (hb hby d6_20) (fun _ _ => ⟨rfl, e81, (by decide : 0 + 0 ≤ _), (by decide : 0 + 0 ≤ _)⟩)
  dsimp only [Pt.U, Pt.locs, Pt.cells, Pt.slots] at X83 l83 y83 z83 st83 hQ83
  subst l83 y83 z83
  obtain ⟨hv83, rfl, e83⟩ := hQ83
  obtain rfl : v83 = some (.int (own_eqs cs1 cs2)) := by
    rcases hv83 with ⟨q, r⟩ | ⟨q, r⟩
    · rw [q, own_eqs, if_pos r]
    · rw [q, own_eqs, if_neg r]
  have N83 : Fr n0 _ := Fr.app N0 (Fr.nil n0)
  have pre84 : ∀ t, Steps p.tables e below (T83.setTop (mkF m 23 (la3 a1 a2 a2) [(.int (own_eqs cs1 cs2))])) t → Steps p.tables e below (s₁.setTop (entryFrame m #[(.ref a1), (.ref a2)] 3)) t := by
    intro t kt
    refine pre0 t ?_
    show GO p e below s₁ (mkF m 0 (la2 a1 a2) []) _
    refine XS.aloadN X0.here hx rfl (hb hby d6_0) rfl rfl ?_
    show GO p e below s₁ (mkF m 1 (la2 a1 a2) [(.ref a2)]) _
    refine st78 _ ?_
    show GO p e below T78 (mkF m 4 (la2 a1 a2) [(.int 1)]) _
    refine XS.ifNo X78.here hx rfl (hb hby d6_4) rfl ((if0 _ _).trans (feq ((by decide) : ¬ ((1 : Int32) = (0 : Int32)))).1) ?_
    show GO p e below T78 (mkF m 7 (la2 a1 a2) []) _
    refine XS.aloadN X78.here hx rfl (hb hby d6_7) rfl rfl ?_
    show GO p e below T78 (mkF m 8 (la2 a1 a2) [(.ref a2)]) _
    refine st79 _ ?_
    show GO p e below T79 (mkF m 11 (la2 a1 a2) [(.ref a2)]) _
    refine XS.astoreN X79.here hx rfl (hb hby d6_11) rfl rfl (l' := (la3 a1 a2 a2)) rfl ?_
    show GO p e below T79 (mkF m 12 (la3 a1 a2 a2) []) _
    refine XS.aloadN X79.here hx rfl (hb hby d6_12) rfl rfl ?_
    show GO p e below T79 (mkF m 13 (la3 a1 a2 a2) [(.ref a1)]) _
    refine st80 _ ?_
    show GO p e below T80 (mkF m 16 (la3 a1 a2 a2) [(.ref x1)]) _
    refine XS.aloadN X80.here hx rfl (hb hby d6_16) rfl rfl ?_
    show GO p e below T80 (mkF m 17 (la3 a1 a2 a2) [(.ref a2), (.ref x1)]) _
    refine st81 _ ?_
    show GO p e below T81 (mkF m 20 (la3 a1 a2 a2) [(.ref x2), (.ref x1)]) _
    refine st83.trans ?_
    exact kt
  by_cases hb85 : cs1 = cs2
  · obtain ⟨fs, hr, hrun, hended, hW, hsame⟩ := X83.leave (v := some (.int 1)) (fun h => by rw [Bd.returns] at h; cases h)
    refine ⟨_, _, pre84 _ ?_, hrun, hended, _, _, rfl, ?_, ⟨_, rfl⟩, hW, hsame.mono (by decide) (by decide)⟩
    · show GO p e below T83 (mkF m 23 (la3 a1 a2 a2) [(.int (own_eqs cs1 cs2))]) _
      refine XS.ifNo X83.here hx rfl (hb hby d6_23) rfl ((if0 _ _).trans (feq (own_eq1 hb85 : ¬ ((own_eqs cs1 cs2) = (0 : Int32)))).1) ?_
      show GO p e below T83 (mkF m 26 (la3 a1 a2 a2) []) _
      refine XS.iconst X83.here hx rfl (hb hby d6_26) ?_
      show GO p e below T83 (mkF m 27 (la3 a1 a2 a2) [(.int 1)]) _
      refine XS.goto X83.here hx rfl (pc0 := 27) (pc' := 31) rfl (hb hby d6_27) (by decide) (by decide) ?_
      show GO p e below T83 (mkF m 31 (la3 a1 a2 a2) [(.int 1)]) _
      exact retN X83 hx (t := .boolean) Bd.returns (by simp) (hb hby d6_31) hr
    · show Qrm_eqb Z a1 a2 z0 x1 t1 k1 N1 vs1 cs1 x2 t2 k2 N2 vs2 cs2 h0 n0 _ T83.heap _
      rw [e83]
      exact ⟨(by rw [own_eqs, if_pos hb85]), N83, rfl⟩
  · obtain ⟨fs, hr, hrun, hended, hW, hsame⟩ := X83.leave (v := some (.int 0)) (fun h => by rw [Bd.returns] at h; cases h)
    refine ⟨_, _, pre84 _ ?_, hrun, hended, _, _, rfl, ?_, ⟨_, rfl⟩, hW, hsame.mono (by decide) (by decide)⟩
    · show GO p e below T83 (mkF m 23 (la3 a1 a2 a2) [(.int (own_eqs cs1 cs2))]) _
      refine XS.ifYes X83.here hx rfl (pc0 := 23) (pc' := 30) rfl (hb hby d6_23) rfl ((if0 _ _).trans (teq (own_eq0 hb85 : (own_eqs cs1 cs2) = (0 : Int32))).1) (by decide) (by decide) ?_
      show GO p e below T83 (mkF m 30 (la3 a1 a2 a2) []) _
      refine XS.iconst X83.here hx rfl (hb hby d6_30) ?_
      show GO p e below T83 (mkF m 31 (la3 a1 a2 a2) [(.int 0)]) _
      exact retN X83 hx (t := .boolean) Bd.returns (by simp) (hb hby d6_31) hr
    · show Qrm_eqb Z a1 a2 z0 x1 t1 k1 N1 vs1 cs1 x2 t2 k2 N2 vs2 cs2 h0 n0 _ T83.heap _
      rw [e83]
      exact ⟨(by rw [own_eq0 hb85]), N83, rfl⟩
def Qrm_eqn (Z : State) (a1 : Addr) (h0 : Heap) (n0 : Nat) (v : Option Value) (h : Heap) (L : List Loc) : Prop := v = some (.int 0) ∧ Fr n0 L ∧ h = h0
theorem ef_rm_eqn (m : MethodId) (x0 : Addr) : entryFrame m #[(.ref x0), .null] 3 = mkF m 0 (la4 x0) [] := by first | rfl | (simp [entryFrame, mkF, argsToLocals, Value.category]; done)
set_option maxRecDepth 65536 in
set_option maxHeartbeats 40000000 in
theorem rm_eqn (l : Launch) (Z : State) (a0 : Array Value) (hw : ∀ d ∈ tables_1, d.before a0 Z = true) (ws : List Jvm.Cond) (a1 : Addr) (h0 : Heap) (n0 : Nat) (Z0 : n0 ≤ h0.size) :
    MetFree l (⟨kS0, "equals", "(Ljava/lang/Object;)Z"⟩ : MethodName) (head1 (Jvm.Cond.code (⟨kS0, "equals", "(Ljava/lang/Object;)Z"⟩ : MethodName) prog_38_method_5_code 3 (some .boolean) :: ws) ({ frames := 0, cells := 0, slots := 0, locals := 0 } : Room)) (fun a U => a = #[(.ref a1), .null] ∧ Z.Warmed39 U.vm ∧ U.heap = h0) (fun _ _ _ _ _ => True) (fun _ U o U' => ∃ v L, o = .returned v ∧ Qrm_eqn Z a1 h0 n0 v U'.heap L ∧ FrameEnd U o U' L ({ frames := 0, cells := 0, slots := 0, locals := 0 } : Room).cells ({ frames := 0, cells := 0, slots := 0, locals := 0 } : Room).slots) := by
  refine MetFree.of_bodySF (plainFor_of_name pn_2) hisR ?_
  intro p e s m args below meth c s₁ Bd hml0 hP hK
  obtain ⟨rfl, hZ, hh⟩ := hP
  have hx := Bd.exec
  have hby := Bd.bytes
  have hml : c.maxLocals = 3 := hml0
  have hown : s.vm.findClass kS0 = some m.cls := findClass_of_methodNamed Bd.named
  have hnm := (name_of_methodNamed Bd.named Bd.method).1
  have X0 : Stand p l e ({ frames := 0, cells := 0, slots := 0, locals := 0 } : Room) s m #[(.ref a1), .null] below meth c s₁ [] 0 0 := Stand.of_body Bd
  have e0 : s₁.heap = h0 := by rw [← hh, Bd.state]; rfl
  have N0 := Fr.nil n0
  have pre0 : ∀ t, Steps p.tables e below (s₁.setTop (mkF m 0 (la4 a1) [])) t → Steps p.tables e below (s₁.setTop (entryFrame m #[(.ref a1), .null] 3)) t := fun t k => castTop (ef_rm_eqn m a1) k
  obtain ⟨fs, hr, hrun, hended, hW, hsame⟩ := X0.leave (v := some (.int 0)) (fun h => by rw [Bd.returns] at h; cases h)
  refine ⟨_, _, pre0 _ ?_, hrun, hended, _, _, rfl, ?_, ⟨_, rfl⟩, hW, hsame.mono (by decide) (by decide)⟩
  · show GO p e below s₁ (mkF m 0 (la4 a1) []) _
    refine XS.aloadN X0.here hx rfl (hb hby d6_0) rfl rfl ?_
    show GO p e below s₁ (mkF m 1 (la4 a1) [.null]) _
    refine X0.instanceofNull hx (g := (mkF m 1 (la4 a1) [.null])) rfl rfl (hb hby d6_1) _ ?_
    show GO p e below s₁ (mkF m 4 (la4 a1) [(.int 0)]) _
    refine XS.ifYes X0.here hx rfl (pc0 := 4) (pc' := 30) rfl (hb hby d6_4) rfl ((if0 _ _).trans (teq (rfl : (0 : Int32) = (0 : Int32))).1) (by decide) (by decide) ?_
    show GO p e below s₁ (mkF m 30 (la4 a1) []) _
    refine XS.iconst X0.here hx rfl (hb hby d6_30) ?_
    show GO p e below s₁ (mkF m 31 (la4 a1) [(.int 0)]) _
    exact retN X0 hx (t := .boolean) Bd.returns (by simp) (hb hby d6_31) hr
  · show Qrm_eqn Z a1 h0 n0 _ s₁.heap _
    rw [e0]
    exact ⟨rfl, N0, rfl⟩
def Qrm_eqs (Z : State) (a1 : Addr) (a2 : Addr) (h0 : Heap) (n0 : Nat) (v : Option Value) (h : Heap) (L : List Loc) : Prop := v = some (.int 0) ∧ Fr n0 L ∧ h = h0
theorem ef_rm_eqs (m : MethodId) (x0 : Addr) (x1 : Addr) : entryFrame m #[(.ref x0), (.ref x1)] 3 = mkF m 0 (la2 x0 x1) [] := by first | rfl | (simp [entryFrame, mkF, argsToLocals, Value.category]; done)
set_option maxRecDepth 65536 in
set_option maxHeartbeats 40000000 in
theorem rm_eqs (l : Launch) (Z : State) (a0 : Array Value) (hw : ∀ d ∈ tables_1, d.before a0 Z = true) (ws : List Jvm.Cond) (a1 : Addr) (a2 : Addr) (h0 : Heap) (n0 : Nat) (Z0 : n0 ≤ h0.size) (E2 : Exa Z h0 a2 "java/lang/String") :
    MetFree l (⟨kS0, "equals", "(Ljava/lang/Object;)Z"⟩ : MethodName) (head1 (Jvm.Cond.code (⟨kS0, "equals", "(Ljava/lang/Object;)Z"⟩ : MethodName) prog_38_method_5_code 3 (some .boolean) :: ws) ({ frames := 0, cells := 0, slots := 0, locals := 0 } : Room)) (fun a U => a = #[(.ref a1), (.ref a2)] ∧ Z.Warmed39 U.vm ∧ U.heap = h0) (fun _ _ _ _ _ => True) (fun _ U o U' => ∃ v L, o = .returned v ∧ Qrm_eqs Z a1 a2 h0 n0 v U'.heap L ∧ FrameEnd U o U' L ({ frames := 0, cells := 0, slots := 0, locals := 0 } : Room).cells ({ frames := 0, cells := 0, slots := 0, locals := 0 } : Room).slots) := by
  refine MetFree.of_bodySF (plainFor_of_name pn_2) hisR ?_
  intro p e s m args below meth c s₁ Bd hml0 hP hK
  obtain ⟨rfl, hZ, hh⟩ := hP
  have hx := Bd.exec
  have hby := Bd.bytes
  have hml : c.maxLocals = 3 := hml0
  have hown : s.vm.findClass kS0 = some m.cls := findClass_of_methodNamed Bd.named
  have hnm := (name_of_methodNamed Bd.named Bd.method).1
  have X0 : Stand p l e ({ frames := 0, cells := 0, slots := 0, locals := 0 } : Room) s m #[(.ref a1), (.ref a2)] below meth c s₁ [] 0 0 := Stand.of_body Bd
  have e0 : s₁.heap = h0 := by rw [← hh, Bd.state]; rfl
  have N0 := Fr.nil n0
  have pre0 : ∀ t, Steps p.tables e below (s₁.setTop (mkF m 0 (la2 a1 a2) [])) t → Steps p.tables e below (s₁.setTop (entryFrame m #[(.ref a1), (.ref a2)] 3)) t := fun t k => castTop (ef_rm_eqs m a1 a2) k
  have lt_E2 := ltA E2.lt
  obtain ⟨T86, X86, e86, st86⟩ := instNo X0 hx hZ hown (wd hw 40 rfl) e0 E2 (own_notinst (wd hw 63 rfl) (wd hw 64 rfl) (wd hw 27 rfl) (by decide) (by decide)) (g := (mkF m 1 (la2 a1 a2) [(.ref a2)])) rfl rfl (hb hby d6_1)
  obtain ⟨fs, hr, hrun, hended, hW, hsame⟩ := X86.leave (v := some (.int 0)) (fun h => by rw [Bd.returns] at h; cases h)
  refine ⟨_, _, pre0 _ ?_, hrun, hended, _, _, rfl, ?_, ⟨_, rfl⟩, hW, hsame.mono (by decide) (by decide)⟩
  · show GO p e below s₁ (mkF m 0 (la2 a1 a2) []) _
    refine XS.aloadN X0.here hx rfl (hb hby d6_0) rfl rfl ?_
    show GO p e below s₁ (mkF m 1 (la2 a1 a2) [(.ref a2)]) _
    refine st86 _ ?_
    show GO p e below T86 (mkF m 4 (la2 a1 a2) [(.int 0)]) _
    refine XS.ifYes X86.here hx rfl (pc0 := 4) (pc' := 30) rfl (hb hby d6_4) rfl ((if0 _ _).trans (teq (rfl : (0 : Int32) = (0 : Int32))).1) (by decide) (by decide) ?_
    show GO p e below T86 (mkF m 30 (la2 a1 a2) []) _
    refine XS.iconst X86.here hx rfl (hb hby d6_30) ?_
    show GO p e below T86 (mkF m 31 (la2 a1 a2) [(.int 0)]) _
    exact retN X86 hx (t := .boolean) Bd.returns (by simp) (hb hby d6_31) hr
  · show Qrm_eqs Z a1 a2 h0 n0 _ T86.heap _
    rw [e86]
    exact ⟨rfl, N0, rfl⟩
def Qrm0 (Z : State) (p0 : Int32) (p1 : Int32) (p2 : Int32) (z0 : Int32) (h0 : Heap) (n0 : Nat) (v : Option Value) (h : Heap) (L : List Loc) : Prop := v = some (.int 1) ∧ Fr n0 L
theorem ef_rm0 (m : MethodId) (x0 : Int32) (x1 : Int32) (x2 : Int32) : entryFrame m #[(.int x0), (.int x1), (.int x2)] maxLocals = mkF m 0 (la5 x0 x1 x2) [] := by first | (simp [entryFrame, mkF, argsToLocals, Value.category, maxLocals]; done) | rfl
set_option maxRecDepth 65536 in
set_option maxHeartbeats 40000000 in
theorem rm0 (l : Launch) (Z : State) (a0 : Array Value) (hw : ∀ d ∈ tables_1, d.before a0 Z = true) (ws : List Jvm.Cond) (p0 : Int32) (p1 : Int32) (p2 : Int32) (z0 : Int32) (h0 : Heap) (n0 : Nat) (Z0 : n0 ≤ h0.size) (O0 : Old Z n0 h0) (SZc : Sta Z Z.heap "java/lang/String" "COMPACT_STRINGS" "Z" (.int z0)) (hz0 : ¬ z0 = 0) :
    MetFree l x (head1 (Jvm.Cond.code x code maxLocals ret :: ws) room_1) (fun a U => a = #[(.int p0), (.int p1), (.int p2)] ∧ Z.Warmed39 U.vm ∧ U.heap = h0 ∧ CHv Z EL1 U.vm h0 ∧ ∀ x ∈ ([] : List Addr), Safe Z EL1 U.vm h0 x) (fun _ _ _ _ _ => True) (fun _ U o U' => ∃ v L, o = .returned v ∧ Qrm0 Z p0 p1 p2 z0 h0 n0 v U'.heap L ∧ CHr Z EL1 U.vm U.heap U'.vm U'.heap ∧ ReturnedEndW U o U' L room_1.cells room_1.slots) := by
  refine MetFree.of_bodySF (plainFor_of_name pn_1) hisR ?_
  intro p e s m args below meth c s₁ Bd hml0 hP hK
  obtain ⟨rfl, hZ, hh, H0, sf⟩ := hP
  have hx := Bd.exec
  have hby := Bd.bytes
  have hml : c.maxLocals = 15 := hml0
  have hown : s.vm.findClass "com/example/casemax/casemax/xadd/BooleanVariableEqualsPinLaw" = some m.cls := findClass_of_methodNamed Bd.named
  have hnm := (name_of_methodNamed Bd.named Bd.method).1
  have X0 : Stand p l e room_1 (s.setVm s.vm) m #[(.int p0), (.int p1), (.int p2)] below meth c s₁ [] 0 0 := Stand.of_body Bd
  have hS0 : s.Since s.vm h0.size := (State.WarmedH.refl s).since _
  have C0 : CHr Z EL1 s.vm h0 s.vm h0 := CHr.refl H0
  have e0 : s₁.heap = h0 := by rw [← hh, Bd.state]; rfl
  have N0 := Fr.nil n0
  have pre0 : ∀ t, Steps p.tables e below (s₁.setTop (mkF m 0 (la5 p0 p1 p2) [])) t → Steps p.tables e below (s₁.setTop (entryFrame m #[(.int p0), (.int p1), (.int p2)] maxLocals)) t := fun t k => castTop (ef_rm0 m p0 p1 p2) k
  obtain ⟨n1, hn1⟩ : ∃ z, z = ((p0 &&& (3 : Int32)) % (3 : Int32)) := ⟨_, rfl⟩
  obtain ⟨n2, hn2⟩ : ∃ z, z = ((((p0.toUInt32 >>> ((2 : Int32) &&& 31).toUInt32).toInt32) &&& (3 : Int32)) % (3 : Int32)) := ⟨_, rfl⟩
  obtain ⟨md, hmd⟩ : ∃ z, z = (((p0.toUInt32 >>> ((4 : Int32) &&& 31).toUInt32).toInt32) &&& (3 : Int32)) := ⟨_, rfl⟩
  obtain ⟨c0, hc0⟩ : ∃ z, z = ((p1 &&& (255 : Int32)).toUInt32.toUInt16.toUInt32.toInt32) := ⟨_, rfl⟩
  obtain ⟨c1, hc1⟩ : ∃ z, z = ((((p1.toUInt32 >>> ((8 : Int32) &&& 31).toUInt32).toInt32) &&& (255 : Int32)).toUInt32.toUInt16.toUInt32.toInt32) := ⟨_, rfl⟩
  obtain ⟨d0, hd0⟩ : ∃ z, z = ((p2 &&& (255 : Int32)).toUInt32.toUInt16.toUInt32.toInt32) := ⟨_, rfl⟩
  obtain ⟨d1, hd1⟩ : ∃ z, z = ((((p2.toUInt32 >>> ((8 : Int32) &&& 31).toUInt32).toInt32) &&& (255 : Int32)).toUInt32.toUInt16.toUInt32.toInt32) := ⟨_, rfl⟩
  have g1 := own_three hn1
  have g2 := own_three2 hn2
  have g3 := own_mode hmd
  obtain ⟨rc0, qc0⟩ : (¬ c0 < 0 ∧ ¬ (255 : Int32) < c0) ∧ nar .char c0 = c0 := by rw [hc0]; exact own_ch p1
  obtain ⟨rc1, qc1⟩ : (¬ c1 < 0 ∧ ¬ (255 : Int32) < c1) ∧ nar .char c1 = c1 := by rw [hc1]; exact own_ch2 p1
  obtain ⟨rd0, qd0⟩ : (¬ d0 < 0 ∧ ¬ (255 : Int32) < d0) ∧ nar .char d0 = d0 := by rw [hd0]; exact own_ch p2
  obtain ⟨rd1, qd1⟩ : (¬ d1 < 0 ∧ ¬ (255 : Int32) < d1) ∧ nar .char d1 = d1 := by rw [hd1]; exact own_ch2 p2
  -- pc 65: BooleanVariableEqualsPinLaw.make by rm_make
  obtain ⟨_, _, ⟨T87, L87, k87, n87⟩, -, X87w, hS87w, gr87, ⟨Lc87, hQ87, l87, y87, z87, C87w⟩, st87⟩ := callSS X0 hx (y := (⟨"com/example/casemax/casemax/xadd/BooleanVariableEqualsPinLaw", "make", "(ICC)Ljava/lang/String;"⟩ : MethodName)) hown (mvT hZ (wd hw 0 rfl)) (mvT hZ (wd hw 1 rfl)) (mvT hZ (wd hw 2 rfl)) (mvT hZ (wd hw 3 rfl)) (by decide) (own_backS (W := 0) (rm_make l Z a0 hw [] n1 c0 c1 z0 h0 n0 (by omega) O0 (by first | assumption | decide | omega | exact neN (by omega)) (by first | assumption | decide | omega | exact neN (by omega)) g1 rc0 rc1 qc0 qc1) hZ (wd hw 3 rfl) (wd hw 2 rfl) (by decide) (by decide) (own_EW hw) C0.1 sf0 all0) (g := (mkF m 65 (la12 p0 p1 p2 n1 n2 md c0 c1 d0 d1) [(.int c1), (.int c0), (.int n1)])) rfl (by rw [hml]; rfl) (argsL := [(.int n1), (.int c0), (.int c1)]) (rest := []) (lenOf pd_3 rfl) rfl (by show 2 * 0 + _ ≤ _; exact Nat.le_of_eq rfl) (hb hby at_65) (fun _ _ => ⟨rfl, e0, (by decide : 0 + 6 ≤ _), (by decide : 0 + 12 ≤ _)⟩)
  dsimp only [Pt.U, Pt.locs, Pt.cells, Pt.slots] at X87w hS87w gr87 l87 y87 z87 st87 hQ87 C87w
  subst l87 y87 z87
  obtain ⟨X87, hS87, hZ87, hown87⟩ := rebS hS0 (by rw [e0]; omega) X87w hS87w gr87 hZ hown
  obtain ⟨h87, e87⟩ : ∃ z, T87.heap = z := ⟨_, rfl⟩
  rw [e87] at hQ87
  obtain ⟨r_87, t_87, k_87, N_87, vs_87, rfl, N87q, K87, p87_0, p87_1, p87_2, p87_3, r87_0, r87_1, r87_2, r87_3⟩ := hQ87
  have N87 := Fr.app N0 N87q
  rw [e87] at C87w hS87
  have hk87 : h87.size ≤ h87.size := Nat.le_refl _
  have C88 : CHr Z EL1 s.vm h0 T87.vm h87 := C0.trans (C87w)
  have sz87 : h0.size ≤ h87.size := K87.1
  have lt87_0 := ltA p87_0.lt
  have lt87_3 := ltA p87_3.lt
  obtain ⟨T89, h89, X89, e89, E89, A89, D89, U89, st89⟩ := newO X87 hx hZ87 hown87 (wd hw 26 rfl) (wd hw 27 rfl) (wd hw 28 rfl) e87 (g := (mkF m 70 (la13 p0 p1 p2 n1 n2 md c0 c1 d0 d1 r_87) [])) rfl (hb hby at_70) (by decide) (by decide)
  obtain ⟨b89, g89⟩ : ∃ z, z = h87.size := ⟨_, rfl⟩
  rw [← g89] at A89 D89 U89 st89
  have C90 : CHr Z EL1 s.vm h0 T87.vm h89 := C88.trans (CHr.ext E89 C88.1)
  have sz89 : h87.size ≤ h89.size := E89.1
  have lt89 := ltA A89.lt
  have f91 : Fld Z h89 b89 kS0 "name" "Ljava/lang/String;" .null := D89 (Or.inr (wd hw 34 rfl)) (ty := (.object "java/lang/String")) (by decide)
  -- pc 76: BooleanVariable.<init> by rm_bv
  obtain ⟨_, _, ⟨T92, L92, k92, n92⟩, -, X92, ⟨Lc92, hQ92, l92, y92, z92⟩, st92⟩ := X89.specialBack hx (y := (⟨kS0, "<init>", "(Ljava/lang/String;)V"⟩ : MethodName)) rfl hown87 (mvT hZ87 (wd hw 29 rfl)) (mvT hZ87 (wd hw 30 rfl)) (mvT hZ87 (wd hw 31 rfl)) (by decide) (backOf (W := 1) (rm_bv l Z a0 hw [] b89 r_87 .null h89 n0 (by omega) A89 f91 (by first | assumption | decide | omega | exact neN (by omega))) hZ87 (wd hw 31 rfl) (wd hw 28 rfl) (by decide) (by decide)) (g := (mkF m 76 (la13 p0 p1 p2 n1 n2 md c0 c1 d0 d1 r_87) [(.ref r_87), (.ref b89), (.ref b89)])) rfl (by rw [hml]; rfl) (Steps.refl _) (a := b89) (argsL := [(.ref r_87)]) (rest := [(.ref b89)]) (lenOf pd_4 rfl) rfl (by show 2 * 0 + _ ≤ _; exact Nat.le_of_eq rfl) (hb hby at_76) (fun _ _ => ⟨rfl, e89, (by decide : 7 + 0 ≤ _), (by decide : 13 + 0 ≤ _)⟩)
  dsimp only [Pt.U, Pt.locs, Pt.cells, Pt.slots] at X92 l92 y92 z92 st92 hQ92
  subst l92 y92 z92
  obtain ⟨h92, e92⟩ : ∃ z, T92.heap = z := ⟨_, rfl⟩
  rw [e92] at hQ92
  obtain ⟨rfl, N92q, K92, p92_0, p92_1⟩ := hQ92
  have N92 := Fr.app N87 N92q
  have f93 : Arv Z h89 t_87 k_87 .byte N_87 vs_87 (.int 0) := (p87_3.ext E89)
  have ne94 : b89 ≠ t_87 := Exa.neArv A89 f93 (wd hw 27 rfl)
  have C95 : CHr Z EL1 s.vm h0 T87.vm h92 := C90.trans (CHr.keep K92 (sfS (Safe.exa hZ87.alike A89 (by decide) (by decide)) sf0) C90.1)
  have sz92 : h89.size ≤ h92.size := K92.1
  have lt92_0 := ltA p92_0.lt
  have pre96 : ∀ t, Steps p.tables e below (T92.setTop (mkF m 83 (la14 p0 p1 p2 n1 n2 md c0 c1 d0 d1 r_87 b89) [(.int md)])) t → Steps p.tables e below (s₁.setTop (entryFrame m #[(.int p0), (.int p1), (.int p2)] maxLocals)) t := by
    intro t kt
    refine pre0 t ?_
    show GO p e below s₁ (mkF m 0 (la5 p0 p1 p2) []) _
    refine XS.iloadN X0.here hx rfl (hb hby at_0) rfl ?_
    show GO p e below s₁ (mkF m 1 (la5 p0 p1 p2) [(.int p0)]) _
    refine XS.iconst X0.here hx rfl (hb hby at_1) ?_
    show GO p e below s₁ (mkF m 2 (la5 p0 p1 p2) [(.int 3), (.int p0)]) _
    refine XS.iand X0.here hx rfl (hb hby at_2) rfl ?_
    show GO p e below s₁ (mkF m 3 (la5 p0 p1 p2) [(.int (p0 &&& (3 : Int32)))]) _
    refine XS.iconst X0.here hx rfl (hb hby at_3) ?_
    show GO p e below s₁ (mkF m 4 (la5 p0 p1 p2) [(.int 3), (.int (p0 &&& (3 : Int32)))]) _
    refine iremM X0 hx rfl (hb hby at_4) rfl (by decide) ?_
    show GO p e below s₁ (mkF m 5 (la5 p0 p1 p2) [(.int ((p0 &&& (3 : Int32)) % (3 : Int32)))]) _
    refine XS.istoreN X0.here hx rfl (hb hby at_5) rfl (l' := (la6 p0 p1 p2 ((p0 &&& (3 : Int32)) % (3 : Int32)))) rfl ?_
    show GO p e below s₁ (mkF m 6 (la6 p0 p1 p2 ((p0 &&& (3 : Int32)) % (3 : Int32))) []) _
    refine XS.iloadN X0.here hx rfl (hb hby at_6) rfl ?_
    show GO p e below s₁ (mkF m 7 (la6 p0 p1 p2 ((p0 &&& (3 : Int32)) % (3 : Int32))) [(.int p0)]) _
    refine XS.iconst X0.here hx rfl (hb hby at_7) ?_
    show GO p e below s₁ (mkF m 8 (la6 p0 p1 p2 ((p0 &&& (3 : Int32)) % (3 : Int32))) [(.int 2), (.int p0)]) _
    refine XS.iushr X0.here hx rfl (hb hby at_8) rfl ?_
    show GO p e below s₁ (mkF m 9 (la6 p0 p1 p2 ((p0 &&& (3 : Int32)) % (3 : Int32))) [(.int ((p0.toUInt32 >>> ((2 : Int32) &&& 31).toUInt32).toInt32))]) _
    refine XS.iconst X0.here hx rfl (hb hby at_9) ?_
    show GO p e below s₁ (mkF m 10 (la6 p0 p1 p2 ((p0 &&& (3 : Int32)) % (3 : Int32))) [(.int 3), (.int ((p0.toUInt32 >>> ((2 : Int32) &&& 31).toUInt32).toInt32))]) _
    refine XS.iand X0.here hx rfl (hb hby at_10) rfl ?_
    show GO p e below s₁ (mkF m 11 (la6 p0 p1 p2 ((p0 &&& (3 : Int32)) % (3 : Int32))) [(.int (((p0.toUInt32 >>> ((2 : Int32) &&& 31).toUInt32).toInt32) &&& (3 : Int32)))]) _
    refine XS.iconst X0.here hx rfl (hb hby at_11) ?_
    show GO p e below s₁ (mkF m 12 (la6 p0 p1 p2 ((p0 &&& (3 : Int32)) % (3 : Int32))) [(.int 3), (.int (((p0.toUInt32 >>> ((2 : Int32) &&& 31).toUInt32).toInt32) &&& (3 : Int32)))]) _
    refine iremM X0 hx rfl (hb hby at_12) rfl (by decide) ?_
    show GO p e below s₁ (mkF m 13 (la6 p0 p1 p2 ((p0 &&& (3 : Int32)) % (3 : Int32))) [(.int ((((p0.toUInt32 >>> ((2 : Int32) &&& 31).toUInt32).toInt32) &&& (3 : Int32)) % (3 : Int32)))]) _
    refine XS.istore X0.here hx rfl (hb hby at_13) rfl (l' := (la7 p0 p1 p2 ((p0 &&& (3 : Int32)) % (3 : Int32)) ((((p0.toUInt32 >>> ((2 : Int32) &&& 31).toUInt32).toInt32) &&& (3 : Int32)) % (3 : Int32)))) rfl ?_
    show GO p e below s₁ (mkF m 15 (la7 p0 p1 p2 ((p0 &&& (3 : Int32)) % (3 : Int32)) ((((p0.toUInt32 >>> ((2 : Int32) &&& 31).toUInt32).toInt32) &&& (3 : Int32)) % (3 : Int32))) []) _
    refine XS.iloadN X0.here hx rfl (hb hby at_15) rfl ?_
    show GO p e below s₁ (mkF m 16 (la7 p0 p1 p2 ((p0 &&& (3 : Int32)) % (3 : Int32)) ((((p0.toUInt32 >>> ((2 : Int32) &&& 31).toUInt32).toInt32) &&& (3 : Int32)) % (3 : Int32))) [(.int p0)]) _
    refine XS.iconst X0.here hx rfl (hb hby at_16) ?_
    show GO p e below s₁ (mkF m 17 (la7 p0 p1 p2 ((p0 &&& (3 : Int32)) % (3 : Int32)) ((((p0.toUInt32 >>> ((2 : Int32) &&& 31).toUInt32).toInt32) &&& (3 : Int32)) % (3 : Int32))) [(.int 4), (.int p0)]) _
    refine XS.iushr X0.here hx rfl (hb hby at_17) rfl ?_
    show GO p e below s₁ (mkF m 18 (la7 p0 p1 p2 ((p0 &&& (3 : Int32)) % (3 : Int32)) ((((p0.toUInt32 >>> ((2 : Int32) &&& 31).toUInt32).toInt32) &&& (3 : Int32)) % (3 : Int32))) [(.int ((p0.toUInt32 >>> ((4 : Int32) &&& 31).toUInt32).toInt32))]) _
    refine XS.iconst X0.here hx rfl (hb hby at_18) ?_
    show GO p e below s₁ (mkF m 19 (la7 p0 p1 p2 ((p0 &&& (3 : Int32)) % (3 : Int32)) ((((p0.toUInt32 >>> ((2 : Int32) &&& 31).toUInt32).toInt32) &&& (3 : Int32)) % (3 : Int32))) [(.int 3), (.int ((p0.toUInt32 >>> ((4 : Int32) &&& 31).toUInt32).toInt32))]) _
    refine XS.iand X0.here hx rfl (hb hby at_19) rfl ?_
    show GO p e below s₁ (mkF m 20 (la7 p0 p1 p2 ((p0 &&& (3 : Int32)) % (3 : Int32)) ((((p0.toUInt32 >>> ((2 : Int32) &&& 31).toUInt32).toInt32) &&& (3 : Int32)) % (3 : Int32))) [(.int (((p0.toUInt32 >>> ((4 : Int32) &&& 31).toUInt32).toInt32) &&& (3 : Int32)))]) _
    refine XS.istore X0.here hx rfl (hb hby at_20) rfl (l' := (la8 p0 p1 p2 ((p0 &&& (3 : Int32)) % (3 : Int32)) ((((p0.toUInt32 >>> ((2 : Int32) &&& 31).toUInt32).toInt32) &&& (3 : Int32)) % (3 : Int32)) (((p0.toUInt32 >>> ((4 : Int32) &&& 31).toUInt32).toInt32) &&& (3 : Int32)))) rfl ?_
    show GO p e below s₁ (mkF m 22 (la8 p0 p1 p2 ((p0 &&& (3 : Int32)) % (3 : Int32)) ((((p0.toUInt32 >>> ((2 : Int32) &&& 31).toUInt32).toInt32) &&& (3 : Int32)) % (3 : Int32)) (((p0.toUInt32 >>> ((4 : Int32) &&& 31).toUInt32).toInt32) &&& (3 : Int32))) []) _
    refine XS.iloadN X0.here hx rfl (hb hby at_22) rfl ?_
    show GO p e below s₁ (mkF m 23 (la8 p0 p1 p2 ((p0 &&& (3 : Int32)) % (3 : Int32)) ((((p0.toUInt32 >>> ((2 : Int32) &&& 31).toUInt32).toInt32) &&& (3 : Int32)) % (3 : Int32)) (((p0.toUInt32 >>> ((4 : Int32) &&& 31).toUInt32).toInt32) &&& (3 : Int32))) [(.int p1)]) _
    refine XS.sipush X0.here hx rfl (hb hby at_23) ?_
    show GO p e below s₁ (mkF m 26 (la8 p0 p1 p2 ((p0 &&& (3 : Int32)) % (3 : Int32)) ((((p0.toUInt32 >>> ((2 : Int32) &&& 31).toUInt32).toInt32) &&& (3 : Int32)) % (3 : Int32)) (((p0.toUInt32 >>> ((4 : Int32) &&& 31).toUInt32).toInt32) &&& (3 : Int32))) [(.int 255), (.int p1)]) _
    refine XS.iand X0.here hx rfl (hb hby at_26) rfl ?_
    show GO p e below s₁ (mkF m 27 (la8 p0 p1 p2 ((p0 &&& (3 : Int32)) % (3 : Int32)) ((((p0.toUInt32 >>> ((2 : Int32) &&& 31).toUInt32).toInt32) &&& (3 : Int32)) % (3 : Int32)) (((p0.toUInt32 >>> ((4 : Int32) &&& 31).toUInt32).toInt32) &&& (3 : Int32))) [(.int (p1 &&& (255 : Int32)))]) _
    refine XS.i2c X0.here hx rfl (hb hby at_27) rfl ?_
    show GO p e below s₁ (mkF m 28 (la8 p0 p1 p2 ((p0 &&& (3 : Int32)) % (3 : Int32)) ((((p0.toUInt32 >>> ((2 : Int32) &&& 31).toUInt32).toInt32) &&& (3 : Int32)) % (3 : Int32)) (((p0.toUInt32 >>> ((4 : Int32) &&& 31).toUInt32).toInt32) &&& (3 : Int32))) [(.int ((p1 &&& (255 : Int32)).toUInt32.toUInt16.toUInt32.toInt32))]) _
    refine XS.istore X0.here hx rfl (hb hby at_28) rfl (l' := (la9 p0 p1 p2 ((p0 &&& (3 : Int32)) % (3 : Int32)) ((((p0.toUInt32 >>> ((2 : Int32) &&& 31).toUInt32).toInt32) &&& (3 : Int32)) % (3 : Int32)) (((p0.toUInt32 >>> ((4 : Int32) &&& 31).toUInt32).toInt32) &&& (3 : Int32)) ((p1 &&& (255 : Int32)).toUInt32.toUInt16.toUInt32.toInt32))) rfl ?_
    show GO p e below s₁ (mkF m 30 (la9 p0 p1 p2 ((p0 &&& (3 : Int32)) % (3 : Int32)) ((((p0.toUInt32 >>> ((2 : Int32) &&& 31).toUInt32).toInt32) &&& (3 : Int32)) % (3 : Int32)) (((p0.toUInt32 >>> ((4 : Int32) &&& 31).toUInt32).toInt32) &&& (3 : Int32)) ((p1 &&& (255 : Int32)).toUInt32.toUInt16.toUInt32.toInt32)) []) _
    refine XS.iloadN X0.here hx rfl (hb hby at_30) rfl ?_
    show GO p e below s₁ (mkF m 31 (la9 p0 p1 p2 ((p0 &&& (3 : Int32)) % (3 : Int32)) ((((p0.toUInt32 >>> ((2 : Int32) &&& 31).toUInt32).toInt32) &&& (3 : Int32)) % (3 : Int32)) (((p0.toUInt32 >>> ((4 : Int32) &&& 31).toUInt32).toInt32) &&& (3 : Int32)) ((p1 &&& (255 : Int32)).toUInt32.toUInt16.toUInt32.toInt32)) [(.int p1)]) _
    refine XS.bipush X0.here hx rfl (hb hby at_31) ?_
    show GO p e below s₁ (mkF m 33 (la9 p0 p1 p2 ((p0 &&& (3 : Int32)) % (3 : Int32)) ((((p0.toUInt32 >>> ((2 : Int32) &&& 31).toUInt32).toInt32) &&& (3 : Int32)) % (3 : Int32)) (((p0.toUInt32 >>> ((4 : Int32) &&& 31).toUInt32).toInt32) &&& (3 : Int32)) ((p1 &&& (255 : Int32)).toUInt32.toUInt16.toUInt32.toInt32)) [(.int 8), (.int p1)]) _
    refine XS.iushr X0.here hx rfl (hb hby at_33) rfl ?_
    show GO p e below s₁ (mkF m 34 (la9 p0 p1 p2 ((p0 &&& (3 : Int32)) % (3 : Int32)) ((((p0.toUInt32 >>> ((2 : Int32) &&& 31).toUInt32).toInt32) &&& (3 : Int32)) % (3 : Int32)) (((p0.toUInt32 >>> ((4 : Int32) &&& 31).toUInt32).toInt32) &&& (3 : Int32)) ((p1 &&& (255 : Int32)).toUInt32.toUInt16.toUInt32.toInt32)) [(.int ((p1.toUInt32 >>> ((8 : Int32) &&& 31).toUInt32).toInt32))]) _
    refine XS.sipush X0.here hx rfl (hb hby at_34) ?_
    show GO p e below s₁ (mkF m 37 (la9 p0 p1 p2 ((p0 &&& (3 : Int32)) % (3 : Int32)) ((((p0.toUInt32 >>> ((2 : Int32) &&& 31).toUInt32).toInt32) &&& (3 : Int32)) % (3 : Int32)) (((p0.toUInt32 >>> ((4 : Int32) &&& 31).toUInt32).toInt32) &&& (3 : Int32)) ((p1 &&& (255 : Int32)).toUInt32.toUInt16.toUInt32.toInt32)) [(.int 255), (.int ((p1.toUInt32 >>> ((8 : Int32) &&& 31).toUInt32).toInt32))]) _
    refine XS.iand X0.here hx rfl (hb hby at_37) rfl ?_
    show GO p e below s₁ (mkF m 38 (la9 p0 p1 p2 ((p0 &&& (3 : Int32)) % (3 : Int32)) ((((p0.toUInt32 >>> ((2 : Int32) &&& 31).toUInt32).toInt32) &&& (3 : Int32)) % (3 : Int32)) (((p0.toUInt32 >>> ((4 : Int32) &&& 31).toUInt32).toInt32) &&& (3 : Int32)) ((p1 &&& (255 : Int32)).toUInt32.toUInt16.toUInt32.toInt32)) [(.int (((p1.toUInt32 >>> ((8 : Int32) &&& 31).toUInt32).toInt32) &&& (255 : Int32)))]) _
    refine XS.i2c X0.here hx rfl (hb hby at_38) rfl ?_
    show GO p e below s₁ (mkF m 39 (la9 p0 p1 p2 ((p0 &&& (3 : Int32)) % (3 : Int32)) ((((p0.toUInt32 >>> ((2 : Int32) &&& 31).toUInt32).toInt32) &&& (3 : Int32)) % (3 : Int32)) (((p0.toUInt32 >>> ((4 : Int32) &&& 31).toUInt32).toInt32) &&& (3 : Int32)) ((p1 &&& (255 : Int32)).toUInt32.toUInt16.toUInt32.toInt32)) [(.int ((((p1.toUInt32 >>> ((8 : Int32) &&& 31).toUInt32).toInt32) &&& (255 : Int32)).toUInt32.toUInt16.toUInt32.toInt32))]) _
    refine XS.istore X0.here hx rfl (hb hby at_39) rfl (l' := (la10 p0 p1 p2 ((p0 &&& (3 : Int32)) % (3 : Int32)) ((((p0.toUInt32 >>> ((2 : Int32) &&& 31).toUInt32).toInt32) &&& (3 : Int32)) % (3 : Int32)) (((p0.toUInt32 >>> ((4 : Int32) &&& 31).toUInt32).toInt32) &&& (3 : Int32)) ((p1 &&& (255 : Int32)).toUInt32.toUInt16.toUInt32.toInt32) ((((p1.toUInt32 >>> ((8 : Int32) &&& 31).toUInt32).toInt32) &&& (255 : Int32)).toUInt32.toUInt16.toUInt32.toInt32))) rfl ?_
    show GO p e below s₁ (mkF m 41 (la10 p0 p1 p2 ((p0 &&& (3 : Int32)) % (3 : Int32)) ((((p0.toUInt32 >>> ((2 : Int32) &&& 31).toUInt32).toInt32) &&& (3 : Int32)) % (3 : Int32)) (((p0.toUInt32 >>> ((4 : Int32) &&& 31).toUInt32).toInt32) &&& (3 : Int32)) ((p1 &&& (255 : Int32)).toUInt32.toUInt16.toUInt32.toInt32) ((((p1.toUInt32 >>> ((8 : Int32) &&& 31).toUInt32).toInt32) &&& (255 : Int32)).toUInt32.toUInt16.toUInt32.toInt32)) []) _
    refine XS.iloadN X0.here hx rfl (hb hby at_41) rfl ?_
    show GO p e below s₁ (mkF m 42 (la10 p0 p1 p2 ((p0 &&& (3 : Int32)) % (3 : Int32)) ((((p0.toUInt32 >>> ((2 : Int32) &&& 31).toUInt32).toInt32) &&& (3 : Int32)) % (3 : Int32)) (((p0.toUInt32 >>> ((4 : Int32) &&& 31).toUInt32).toInt32) &&& (3 : Int32)) ((p1 &&& (255 : Int32)).toUInt32.toUInt16.toUInt32.toInt32) ((((p1.toUInt32 >>> ((8 : Int32) &&& 31).toUInt32).toInt32) &&& (255 : Int32)).toUInt32.toUInt16.toUInt32.toInt32)) [(.int p2)]) _
    refine XS.sipush X0.here hx rfl (hb hby at_42) ?_
    show GO p e below s₁ (mkF m 45 (la10 p0 p1 p2 ((p0 &&& (3 : Int32)) % (3 : Int32)) ((((p0.toUInt32 >>> ((2 : Int32) &&& 31).toUInt32).toInt32) &&& (3 : Int32)) % (3 : Int32)) (((p0.toUInt32 >>> ((4 : Int32) &&& 31).toUInt32).toInt32) &&& (3 : Int32)) ((p1 &&& (255 : Int32)).toUInt32.toUInt16.toUInt32.toInt32) ((((p1.toUInt32 >>> ((8 : Int32) &&& 31).toUInt32).toInt32) &&& (255 : Int32)).toUInt32.toUInt16.toUInt32.toInt32)) [(.int 255), (.int p2)]) _
    refine XS.iand X0.here hx rfl (hb hby at_45) rfl ?_
    show GO p e below s₁ (mkF m 46 (la10 p0 p1 p2 ((p0 &&& (3 : Int32)) % (3 : Int32)) ((((p0.toUInt32 >>> ((2 : Int32) &&& 31).toUInt32).toInt32) &&& (3 : Int32)) % (3 : Int32)) (((p0.toUInt32 >>> ((4 : Int32) &&& 31).toUInt32).toInt32) &&& (3 : Int32)) ((p1 &&& (255 : Int32)).toUInt32.toUInt16.toUInt32.toInt32) ((((p1.toUInt32 >>> ((8 : Int32) &&& 31).toUInt32).toInt32) &&& (255 : Int32)).toUInt32.toUInt16.toUInt32.toInt32)) [(.int (p2 &&& (255 : Int32)))]) _
    refine XS.i2c X0.here hx rfl (hb hby at_46) rfl ?_
    show GO p e below s₁ (mkF m 47 (la10 p0 p1 p2 ((p0 &&& (3 : Int32)) % (3 : Int32)) ((((p0.toUInt32 >>> ((2 : Int32) &&& 31).toUInt32).toInt32) &&& (3 : Int32)) % (3 : Int32)) (((p0.toUInt32 >>> ((4 : Int32) &&& 31).toUInt32).toInt32) &&& (3 : Int32)) ((p1 &&& (255 : Int32)).toUInt32.toUInt16.toUInt32.toInt32) ((((p1.toUInt32 >>> ((8 : Int32) &&& 31).toUInt32).toInt32) &&& (255 : Int32)).toUInt32.toUInt16.toUInt32.toInt32)) [(.int ((p2 &&& (255 : Int32)).toUInt32.toUInt16.toUInt32.toInt32))]) _
    refine XS.istore X0.here hx rfl (hb hby at_47) rfl (l' := (la11 p0 p1 p2 ((p0 &&& (3 : Int32)) % (3 : Int32)) ((((p0.toUInt32 >>> ((2 : Int32) &&& 31).toUInt32).toInt32) &&& (3 : Int32)) % (3 : Int32)) (((p0.toUInt32 >>> ((4 : Int32) &&& 31).toUInt32).toInt32) &&& (3 : Int32)) ((p1 &&& (255 : Int32)).toUInt32.toUInt16.toUInt32.toInt32) ((((p1.toUInt32 >>> ((8 : Int32) &&& 31).toUInt32).toInt32) &&& (255 : Int32)).toUInt32.toUInt16.toUInt32.toInt32) ((p2 &&& (255 : Int32)).toUInt32.toUInt16.toUInt32.toInt32))) rfl ?_
    show GO p e below s₁ (mkF m 49 (la11 p0 p1 p2 ((p0 &&& (3 : Int32)) % (3 : Int32)) ((((p0.toUInt32 >>> ((2 : Int32) &&& 31).toUInt32).toInt32) &&& (3 : Int32)) % (3 : Int32)) (((p0.toUInt32 >>> ((4 : Int32) &&& 31).toUInt32).toInt32) &&& (3 : Int32)) ((p1 &&& (255 : Int32)).toUInt32.toUInt16.toUInt32.toInt32) ((((p1.toUInt32 >>> ((8 : Int32) &&& 31).toUInt32).toInt32) &&& (255 : Int32)).toUInt32.toUInt16.toUInt32.toInt32) ((p2 &&& (255 : Int32)).toUInt32.toUInt16.toUInt32.toInt32)) []) _
    refine XS.iloadN X0.here hx rfl (hb hby at_49) rfl ?_
    show GO p e below s₁ (mkF m 50 (la11 p0 p1 p2 ((p0 &&& (3 : Int32)) % (3 : Int32)) ((((p0.toUInt32 >>> ((2 : Int32) &&& 31).toUInt32).toInt32) &&& (3 : Int32)) % (3 : Int32)) (((p0.toUInt32 >>> ((4 : Int32) &&& 31).toUInt32).toInt32) &&& (3 : Int32)) ((p1 &&& (255 : Int32)).toUInt32.toUInt16.toUInt32.toInt32) ((((p1.toUInt32 >>> ((8 : Int32) &&& 31).toUInt32).toInt32) &&& (255 : Int32)).toUInt32.toUInt16.toUInt32.toInt32) ((p2 &&& (255 : Int32)).toUInt32.toUInt16.toUInt32.toInt32)) [(.int p2)]) _
    refine XS.bipush X0.here hx rfl (hb hby at_50) ?_
    show GO p e below s₁ (mkF m 52 (la11 p0 p1 p2 ((p0 &&& (3 : Int32)) % (3 : Int32)) ((((p0.toUInt32 >>> ((2 : Int32) &&& 31).toUInt32).toInt32) &&& (3 : Int32)) % (3 : Int32)) (((p0.toUInt32 >>> ((4 : Int32) &&& 31).toUInt32).toInt32) &&& (3 : Int32)) ((p1 &&& (255 : Int32)).toUInt32.toUInt16.toUInt32.toInt32) ((((p1.toUInt32 >>> ((8 : Int32) &&& 31).toUInt32).toInt32) &&& (255 : Int32)).toUInt32.toUInt16.toUInt32.toInt32) ((p2 &&& (255 : Int32)).toUInt32.toUInt16.toUInt32.toInt32)) [(.int 8), (.int p2)]) _
    refine XS.iushr X0.here hx rfl (hb hby at_52) rfl ?_
    show GO p e below s₁ (mkF m 53 (la11 p0 p1 p2 ((p0 &&& (3 : Int32)) % (3 : Int32)) ((((p0.toUInt32 >>> ((2 : Int32) &&& 31).toUInt32).toInt32) &&& (3 : Int32)) % (3 : Int32)) (((p0.toUInt32 >>> ((4 : Int32) &&& 31).toUInt32).toInt32) &&& (3 : Int32)) ((p1 &&& (255 : Int32)).toUInt32.toUInt16.toUInt32.toInt32) ((((p1.toUInt32 >>> ((8 : Int32) &&& 31).toUInt32).toInt32) &&& (255 : Int32)).toUInt32.toUInt16.toUInt32.toInt32) ((p2 &&& (255 : Int32)).toUInt32.toUInt16.toUInt32.toInt32)) [(.int ((p2.toUInt32 >>> ((8 : Int32) &&& 31).toUInt32).toInt32))]) _
    refine XS.sipush X0.here hx rfl (hb hby at_53) ?_
    show GO p e below s₁ (mkF m 56 (la11 p0 p1 p2 ((p0 &&& (3 : Int32)) % (3 : Int32)) ((((p0.toUInt32 >>> ((2 : Int32) &&& 31).toUInt32).toInt32) &&& (3 : Int32)) % (3 : Int32)) (((p0.toUInt32 >>> ((4 : Int32) &&& 31).toUInt32).toInt32) &&& (3 : Int32)) ((p1 &&& (255 : Int32)).toUInt32.toUInt16.toUInt32.toInt32) ((((p1.toUInt32 >>> ((8 : Int32) &&& 31).toUInt32).toInt32) &&& (255 : Int32)).toUInt32.toUInt16.toUInt32.toInt32) ((p2 &&& (255 : Int32)).toUInt32.toUInt16.toUInt32.toInt32)) [(.int 255), (.int ((p2.toUInt32 >>> ((8 : Int32) &&& 31).toUInt32).toInt32))]) _
    refine XS.iand X0.here hx rfl (hb hby at_56) rfl ?_
    show GO p e below s₁ (mkF m 57 (la11 p0 p1 p2 ((p0 &&& (3 : Int32)) % (3 : Int32)) ((((p0.toUInt32 >>> ((2 : Int32) &&& 31).toUInt32).toInt32) &&& (3 : Int32)) % (3 : Int32)) (((p0.toUInt32 >>> ((4 : Int32) &&& 31).toUInt32).toInt32) &&& (3 : Int32)) ((p1 &&& (255 : Int32)).toUInt32.toUInt16.toUInt32.toInt32) ((((p1.toUInt32 >>> ((8 : Int32) &&& 31).toUInt32).toInt32) &&& (255 : Int32)).toUInt32.toUInt16.toUInt32.toInt32) ((p2 &&& (255 : Int32)).toUInt32.toUInt16.toUInt32.toInt32)) [(.int (((p2.toUInt32 >>> ((8 : Int32) &&& 31).toUInt32).toInt32) &&& (255 : Int32)))]) _
    refine XS.i2c X0.here hx rfl (hb hby at_57) rfl ?_
    show GO p e below s₁ (mkF m 58 (la11 p0 p1 p2 ((p0 &&& (3 : Int32)) % (3 : Int32)) ((((p0.toUInt32 >>> ((2 : Int32) &&& 31).toUInt32).toInt32) &&& (3 : Int32)) % (3 : Int32)) (((p0.toUInt32 >>> ((4 : Int32) &&& 31).toUInt32).toInt32) &&& (3 : Int32)) ((p1 &&& (255 : Int32)).toUInt32.toUInt16.toUInt32.toInt32) ((((p1.toUInt32 >>> ((8 : Int32) &&& 31).toUInt32).toInt32) &&& (255 : Int32)).toUInt32.toUInt16.toUInt32.toInt32) ((p2 &&& (255 : Int32)).toUInt32.toUInt16.toUInt32.toInt32)) [(.int ((((p2.toUInt32 >>> ((8 : Int32) &&& 31).toUInt32).toInt32) &&& (255 : Int32)).toUInt32.toUInt16.toUInt32.toInt32))]) _
    refine XS.istore X0.here hx rfl (hb hby at_58) rfl (l' := (la12 p0 p1 p2 ((p0 &&& (3 : Int32)) % (3 : Int32)) ((((p0.toUInt32 >>> ((2 : Int32) &&& 31).toUInt32).toInt32) &&& (3 : Int32)) % (3 : Int32)) (((p0.toUInt32 >>> ((4 : Int32) &&& 31).toUInt32).toInt32) &&& (3 : Int32)) ((p1 &&& (255 : Int32)).toUInt32.toUInt16.toUInt32.toInt32) ((((p1.toUInt32 >>> ((8 : Int32) &&& 31).toUInt32).toInt32) &&& (255 : Int32)).toUInt32.toUInt16.toUInt32.toInt32) ((p2 &&& (255 : Int32)).toUInt32.toUInt16.toUInt32.toInt32) ((((p2.toUInt32 >>> ((8 : Int32) &&& 31).toUInt32).toInt32) &&& (255 : Int32)).toUInt32.toUInt16.toUInt32.toInt32))) rfl ?_
    rw [← hn1]
    rw [← hn2]
    rw [← hmd]
    rw [← hc0]
    rw [← hc1]
    rw [← hd0]
    rw [← hd1]
    show GO p e below s₁ (mkF m 60 (la12 p0 p1 p2 n1 n2 md c0 c1 d0 d1) []) _
    refine XS.iloadN X0.here hx rfl (hb hby at_60) rfl ?_
    show GO p e below s₁ (mkF m 61 (la12 p0 p1 p2 n1 n2 md c0 c1 d0 d1) [(.int n1)]) _
    refine XS.iload X0.here hx rfl (hb hby at_61) rfl ?_
    show GO p e below s₁ (mkF m 63 (la12 p0 p1 p2 n1 n2 md c0 c1 d0 d1) [(.int c0), (.int n1)]) _
    refine XS.iload X0.here hx rfl (hb hby at_63) rfl ?_
    show GO p e below s₁ (mkF m 65 (la12 p0 p1 p2 n1 n2 md c0 c1 d0 d1) [(.int c1), (.int c0), (.int n1)]) _
    refine st87.trans ?_
    show GO p e below T87 (mkF m 68 (la12 p0 p1 p2 n1 n2 md c0 c1 d0 d1) [(.ref r_87)]) _
    refine XS.astore X87.here hx rfl (hb hby at_68) rfl rfl (l' := (la13 p0 p1 p2 n1 n2 md c0 c1 d0 d1 r_87)) rfl ?_
    show GO p e below T87 (mkF m 70 (la13 p0 p1 p2 n1 n2 md c0 c1 d0 d1 r_87) []) _
    refine st89 _ ?_
    show GO p e below T89 (mkF m 73 (la13 p0 p1 p2 n1 n2 md c0 c1 d0 d1 r_87) [(.ref b89)]) _
    refine XS.dup X89.here hx rfl (hb hby at_73) rfl rfl ?_
    show GO p e below T89 (mkF m 74 (la13 p0 p1 p2 n1 n2 md c0 c1 d0 d1 r_87) [(.ref b89), (.ref b89)]) _
    refine XS.aload X89.here hx rfl (hb hby at_74) rfl rfl ?_
    show GO p e below T89 (mkF m 76 (la13 p0 p1 p2 n1 n2 md c0 c1 d0 d1 r_87) [(.ref r_87), (.ref b89), (.ref b89)]) _
    refine st92.trans ?_
    show GO p e below T92 (mkF m 79 (la13 p0 p1 p2 n1 n2 md c0 c1 d0 d1 r_87) [(.ref b89)]) _
    refine XS.astore X92.here hx rfl (hb hby at_79) rfl rfl (l' := (la14 p0 p1 p2 n1 n2 md c0 c1 d0 d1 r_87 b89)) rfl ?_
    show GO p e below T92 (mkF m 81 (la14 p0 p1 p2 n1 n2 md c0 c1 d0 d1 r_87 b89) []) _
    refine XS.iload X92.here hx rfl (hb hby at_81) rfl ?_
    exact kt
  rcases g3 with rfl | rfl | rfl | rfl
  · obtain ⟨T97, h97, X97, e97, E97, A97, D97, U97, st97⟩ := newO X92 hx hZ87 hown87 (wd hw 26 rfl) (wd hw 27 rfl) (wd hw 28 rfl) e92 (g := (mkF m 86 (la14 p0 p1 p2 n1 n2 (0 : Int32) c0 c1 d0 d1 r_87 b89) [])) rfl (hb hby at_86) (by decide) (by decide)
    obtain ⟨b97, g97⟩ : ∃ z, z = h92.size := ⟨_, rfl⟩
    rw [← g97] at A97 D97 U97 st97
    have C98 : CHr Z EL1 s.vm h0 T87.vm h97 := C95.trans (CHr.ext E97 C95.1)
    have sz97 : h92.size ≤ h97.size := E97.1
    have lt97 := ltA A97.lt
    have f99 : Fld Z h97 b97 kS0 "name" "Ljava/lang/String;" .null := D97 (Or.inr (wd hw 34 rfl)) (ty := (.object "java/lang/String")) (by decide)
    -- pc 96: BooleanVariableEqualsPinLaw.make by rm_make
    have f101 : Old Z n0 h97 := ((((O0.keep K87 all0).ext E89).keep K92 (allS (by omega) all0)).ext E97)
    obtain ⟨_, _, ⟨T100, L100, k100, n100⟩, -, X100w, hS100w, gr100, ⟨Lc100, hQ100, l100, y100, z100, C100w⟩, st100⟩ := callSS X97 hx (y := (⟨"com/example/casemax/casemax/xadd/BooleanVariableEqualsPinLaw", "make", "(ICC)Ljava/lang/String;"⟩ : MethodName)) hown87 (mvT hZ87 (wd hw 0 rfl)) (mvT hZ87 (wd hw 1 rfl)) (mvT hZ87 (wd hw 2 rfl)) (mvT hZ87 (wd hw 3 rfl)) (by decide) (own_backS (W := 2) (rm_make l Z a0 hw [] n2 d0 d1 z0 h97 n0 (by omega) f101 (by first | assumption | decide | omega | exact neN (by omega)) (by first | assumption | decide | omega | exact neN (by omega)) g2 rd0 rd1 qd0 qd1) hZ87 (wd hw 3 rfl) (wd hw 2 rfl) (by decide) (by decide) (own_EW hw) C98.1 sf0 all0) (g := (mkF m 96 (la14 p0 p1 p2 n1 n2 (0 : Int32) c0 c1 d0 d1 r_87 b89) [(.int d1), (.int d0), (.int n2), (.ref b97), (.ref b97)])) rfl (by rw [hml]; rfl) (argsL := [(.int n2), (.int d0), (.int d1)]) (rest := [(.ref b97), (.ref b97)]) (lenOf pd_3 rfl) rfl (by show 2 * 0 + _ ≤ _; exact Nat.le_of_eq rfl) (hb hby at_96) (fun _ _ => ⟨rfl, e97, (by decide : 8 + 6 ≤ _), (by decide : 14 + 12 ≤ _)⟩)
    dsimp only [Pt.U, Pt.locs, Pt.cells, Pt.slots] at X100w hS100w gr100 l100 y100 z100 st100 hQ100 C100w
    subst l100 y100 z100
    obtain ⟨X100, hS100, hZ100, hown100⟩ := rebS hS87 (by rw [e97]; omega) X100w hS100w gr100 hZ87 hown87
    obtain ⟨h100, e100⟩ : ∃ z, T100.heap = z := ⟨_, rfl⟩
    rw [e100] at hQ100
    obtain ⟨r_100, t_100, k_100, N_100, vs_100, rfl, N100q, K100, p100_0, p100_1, p100_2, p100_3, r100_0, r100_1, r100_2, r100_3⟩ := hQ100
    have N100 := Fr.app N92 N100q
    rw [e100] at C100w hS100
    have hk100 : h100.size ≤ h100.size := Nat.le_refl _
    have C102 : CHr Z EL1 s.vm h0 T100.vm h100 := C98.trans (C100w)
    have sz100 : h97.size ≤ h100.size := K100.1
    have lt100_0 := ltA p100_0.lt
    have lt100_3 := ltA p100_3.lt
    -- pc 99: BooleanVariable.<init> by rm_bv
    have f104 : Exa Z h100 b97 kS0 := (A97.keep K100)
    have f105 : Fld Z h100 b97 kS0 "name" "Ljava/lang/String;" .null := (f99.keep K100 nin0)
    obtain ⟨_, _, ⟨T103, L103, k103, n103⟩, -, X103, ⟨Lc103, hQ103, l103, y103, z103⟩, st103⟩ := X100.specialBack hx (y := (⟨kS0, "<init>", "(Ljava/lang/String;)V"⟩ : MethodName)) rfl hown100 (mvT hZ100 (wd hw 29 rfl)) (mvT hZ100 (wd hw 30 rfl)) (mvT hZ100 (wd hw 31 rfl)) (by decide) (backOf (W := 1) (rm_bv l Z a0 hw [] b97 r_100 .null h100 n0 (by omega) f104 f105 (by first | assumption | decide | omega | exact neN (by omega))) hZ100 (wd hw 31 rfl) (wd hw 28 rfl) (by decide) (by decide)) (g := (mkF m 99 (la14 p0 p1 p2 n1 n2 (0 : Int32) c0 c1 d0 d1 r_87 b89) [(.ref r_100), (.ref b97), (.ref b97)])) rfl (by rw [hml]; rfl) (Steps.refl _) (a := b97) (argsL := [(.ref r_100)]) (rest := [(.ref b97)]) (lenOf pd_4 rfl) rfl (by show 2 * 0 + _ ≤ _; exact Nat.le_of_eq rfl) (hb hby at_99) (fun _ _ => ⟨rfl, e100, (by decide : 14 + 0 ≤ _), (by decide : 26 + 0 ≤ _)⟩)
    dsimp only [Pt.U, Pt.locs, Pt.cells, Pt.slots] at X103 l103 y103 z103 st103 hQ103
    subst l103 y103 z103
    obtain ⟨h103, e103⟩ : ∃ z, T103.heap = z := ⟨_, rfl⟩
    rw [e103] at hQ103
    obtain ⟨rfl, N103q, K103, p103_0, p103_1⟩ := hQ103
    have N103 := Fr.app N100 N103q
    have ne106 : b97 ≠ t_100 := Exa.neArv f104 p100_3 (wd hw 27 rfl)
    have f107 : Arv Z h100 t_87 k_87 .byte N_87 vs_87 (.int 0) := (((f93.keep K92 (ninS (Ne.symm ne94) nin0)).ext E97).keep K100 nin0)
    have ne108 : b97 ≠ t_87 := Exa.neArv f104 f107 (wd hw 27 rfl)
    have C109 : CHr Z EL1 s.vm h0 T100.vm h103 := C102.trans (CHr.keep K103 (sfS (Safe.exa hZ100.alike f104 (by decide) (by decide)) sf0) C102.1)
    have sz103 : h100.size ≤ h103.size := K103.1
    have lt103_0 := ltA p103_0.lt
    have pre110 : ∀ t, Steps p.tables e below (T103.setTop (mkF m 155 (la15 p0 p1 p2 n1 n2 (0 : Int32) c0 c1 d0 d1 r_87 b89 b97) [])) t → Steps p.tables e below (s₁.setTop (entryFrame m #[(.int p0), (.int p1), (.int p2)] maxLocals)) t := by
      intro t kt
      refine pre96 t ?_
      show GO p e below T92 (mkF m 83 (la14 p0 p1 p2 n1 n2 (0 : Int32) c0 c1 d0 d1 r_87 b89) [(.int 0)]) _
      refine XS.ifNo X92.here hx rfl (hb hby at_83) rfl ((if0 _ _).trans (teq (rfl : (0 : Int32) = (0 : Int32))).2) ?_
      show GO p e below T92 (mkF m 86 (la14 p0 p1 p2 n1 n2 (0 : Int32) c0 c1 d0 d1 r_87 b89) []) _
      refine st97 _ ?_
      show GO p e below T97 (mkF m 89 (la14 p0 p1 p2 n1 n2 (0 : Int32) c0 c1 d0 d1 r_87 b89) [(.ref b97)]) _
      refine XS.dup X97.here hx rfl (hb hby at_89) rfl rfl ?_
      show GO p e below T97 (mkF m 90 (la14 p0 p1 p2 n1 n2 (0 : Int32) c0 c1 d0 d1 r_87 b89) [(.ref b97), (.ref b97)]) _
      refine XS.iload X97.here hx rfl (hb hby at_90) rfl ?_
      show GO p e below T97 (mkF m 92 (la14 p0 p1 p2 n1 n2 (0 : Int32) c0 c1 d0 d1 r_87 b89) [(.int n2), (.ref b97), (.ref b97)]) _
      refine XS.iload X97.here hx rfl (hb hby at_92) rfl ?_
      show GO p e below T97 (mkF m 94 (la14 p0 p1 p2 n1 n2 (0 : Int32) c0 c1 d0 d1 r_87 b89) [(.int d0), (.int n2), (.ref b97), (.ref b97)]) _
      refine XS.iload X97.here hx rfl (hb hby at_94) rfl ?_
      show GO p e below T97 (mkF m 96 (la14 p0 p1 p2 n1 n2 (0 : Int32) c0 c1 d0 d1 r_87 b89) [(.int d1), (.int d0), (.int n2), (.ref b97), (.ref b97)]) _
      refine st100.trans ?_
      show GO p e below T100 (mkF m 99 (la14 p0 p1 p2 n1 n2 (0 : Int32) c0 c1 d0 d1 r_87 b89) [(.ref r_100), (.ref b97), (.ref b97)]) _
      refine st103.trans ?_
      show GO p e below T103 (mkF m 102 (la14 p0 p1 p2 n1 n2 (0 : Int32) c0 c1 d0 d1 r_87 b89) [(.ref b97)]) _
      refine XS.astore X103.here hx rfl (hb hby at_102) rfl rfl (l' := (la15 p0 p1 p2 n1 n2 (0 : Int32) c0 c1 d0 d1 r_87 b89 b97)) rfl ?_
      show GO p e below T103 (mkF m 104 (la15 p0 p1 p2 n1 n2 (0 : Int32) c0 c1 d0 d1 r_87 b89 b97) []) _
      refine XS.goto X103.here hx rfl (pc0 := 104) (pc' := 155) rfl (hb hby at_104) (by decide) (by decide) ?_
      exact kt
    obtain ⟨vv, hvv, pre111⟩ : ∃ vv : Int32, (vv = own_same n1 n2 c0 c1 d0 d1) ∧ ∀ t, Steps p.tables e below (T103.setTop (mkF m 190 (la15 p0 p1 p2 n1 n2 (0 : Int32) c0 c1 d0 d1 r_87 b89 b97) [(.int vv)])) t → Steps p.tables e below (s₁.setTop (entryFrame m #[(.int p0), (.int p1), (.int p2)] maxLocals)) t := by
      have pre112 : ∀ t, Steps p.tables e below (T103.setTop (mkF m 158 (la15 p0 p1 p2 n1 n2 (0 : Int32) c0 c1 d0 d1 r_87 b89 b97) [(.int n2), (.int n1)])) t → Steps p.tables e below (s₁.setTop (entryFrame m #[(.int p0), (.int p1), (.int p2)] maxLocals)) t := by
        intro t kt
        refine pre110 t ?_
        show GO p e below T103 (mkF m 155 (la15 p0 p1 p2 n1 n2 (0 : Int32) c0 c1 d0 d1 r_87 b89 b97) []) _
        refine XS.iloadN X103.here hx rfl (hb hby at_155) rfl ?_
        show GO p e below T103 (mkF m 156 (la15 p0 p1 p2 n1 n2 (0 : Int32) c0 c1 d0 d1 r_87 b89 b97) [(.int n1)]) _
        refine XS.iload X103.here hx rfl (hb hby at_156) rfl ?_
        exact kt
      by_cases hb113 : n1 = n2
      · have pre114 : ∀ t, Steps p.tables e below (T103.setTop (mkF m 163 (la15 p0 p1 p2 n1 n2 (0 : Int32) c0 c1 d0 d1 r_87 b89 b97) [(.int 1), (.int n1)])) t → Steps p.tables e below (s₁.setTop (entryFrame m #[(.int p0), (.int p1), (.int p2)] maxLocals)) t := by
          intro t kt
          refine pre112 t ?_
          show GO p e below T103 (mkF m 158 (la15 p0 p1 p2 n1 n2 (0 : Int32) c0 c1 d0 d1 r_87 b89 b97) [(.int n2), (.int n1)]) _
          refine XS.icmpNo X103.here hx rfl (hb hby at_158) rfl (teq (hb113 : n1 = n2)).2 ?_
          show GO p e below T103 (mkF m 161 (la15 p0 p1 p2 n1 n2 (0 : Int32) c0 c1 d0 d1 r_87 b89 b97) []) _
          refine XS.iloadN X103.here hx rfl (hb hby at_161) rfl ?_
          show GO p e below T103 (mkF m 162 (la15 p0 p1 p2 n1 n2 (0 : Int32) c0 c1 d0 d1 r_87 b89 b97) [(.int n1)]) _
          refine XS.iconst X103.here hx rfl (hb hby at_162) ?_
          exact kt
        by_cases hb115 : n1 < (1 : Int32)
        · have pre116 : ∀ t, Steps p.tables e below (T103.setTop (mkF m 175 (la15 p0 p1 p2 n1 n2 (0 : Int32) c0 c1 d0 d1 r_87 b89 b97) [(.int 2), (.int n1)])) t → Steps p.tables e below (s₁.setTop (entryFrame m #[(.int p0), (.int p1), (.int p2)] maxLocals)) t := by
            intro t kt
            refine pre114 t ?_
            show GO p e below T103 (mkF m 163 (la15 p0 p1 p2 n1 n2 (0 : Int32) c0 c1 d0 d1 r_87 b89 b97) [(.int 1), (.int n1)]) _
            refine XS.icmpYes X103.here hx rfl (pc0 := 163) (pc' := 173) rfl (hb hby at_163) rfl (tlt (hb115 : n1 < (1 : Int32))).1 (by decide) (by decide) ?_
            show GO p e below T103 (mkF m 173 (la15 p0 p1 p2 n1 n2 (0 : Int32) c0 c1 d0 d1 r_87 b89 b97) []) _
            refine XS.iloadN X103.here hx rfl (hb hby at_173) rfl ?_
            show GO p e below T103 (mkF m 174 (la15 p0 p1 p2 n1 n2 (0 : Int32) c0 c1 d0 d1 r_87 b89 b97) [(.int n1)]) _
            refine XS.iconst X103.here hx rfl (hb hby at_174) ?_
            exact kt
          by_cases hb117 : n1 < (2 : Int32)
          · have pre118 : ∀ t, Steps p.tables e below (T103.setTop (mkF m 190 (la15 p0 p1 p2 n1 n2 (0 : Int32) c0 c1 d0 d1 r_87 b89 b97) [(.int 1)])) t → Steps p.tables e below (s₁.setTop (entryFrame m #[(.int p0), (.int p1), (.int p2)] maxLocals)) t := by
              intro t kt
              refine pre116 t ?_
              show GO p e below T103 (mkF m 175 (la15 p0 p1 p2 n1 n2 (0 : Int32) c0 c1 d0 d1 r_87 b89 b97) [(.int 2), (.int n1)]) _
              refine XS.icmpYes X103.here hx rfl (pc0 := 175) (pc' := 185) rfl (hb hby at_175) rfl (tlt (hb117 : n1 < (2 : Int32))).1 (by decide) (by decide) ?_
              show GO p e below T103 (mkF m 185 (la15 p0 p1 p2 n1 n2 (0 : Int32) c0 c1 d0 d1 r_87 b89 b97) []) _
              refine XS.iconst X103.here hx rfl (hb hby at_185) ?_
              show GO p e below T103 (mkF m 186 (la15 p0 p1 p2 n1 n2 (0 : Int32) c0 c1 d0 d1 r_87 b89 b97) [(.int 1)]) _
              refine XS.goto X103.here hx rfl (pc0 := 186) (pc' := 190) rfl (hb hby at_186) (by decide) (by decide) ?_
              exact kt
            exact ⟨(1 : Int32), (by rw [own_same, if_pos ⟨hb113, Or.inl hb115, Or.inl hb117⟩]), fun t kt => pre118 t kt⟩
          · have pre119 : ∀ t, Steps p.tables e below (T103.setTop (mkF m 182 (la15 p0 p1 p2 n1 n2 (0 : Int32) c0 c1 d0 d1 r_87 b89 b97) [(.int d1), (.int c1)])) t → Steps p.tables e below (s₁.setTop (entryFrame m #[(.int p0), (.int p1), (.int p2)] maxLocals)) t := by
              intro t kt
              refine pre116 t ?_
              show GO p e below T103 (mkF m 175 (la15 p0 p1 p2 n1 n2 (0 : Int32) c0 c1 d0 d1 r_87 b89 b97) [(.int 2), (.int n1)]) _
              refine XS.icmpNo X103.here hx rfl (hb hby at_175) rfl (flt (hb117 : ¬ (n1 < (2 : Int32)))).1 ?_
              show GO p e below T103 (mkF m 178 (la15 p0 p1 p2 n1 n2 (0 : Int32) c0 c1 d0 d1 r_87 b89 b97) []) _
              refine XS.iload X103.here hx rfl (hb hby at_178) rfl ?_
              show GO p e below T103 (mkF m 180 (la15 p0 p1 p2 n1 n2 (0 : Int32) c0 c1 d0 d1 r_87 b89 b97) [(.int c1)]) _
              refine XS.iload X103.here hx rfl (hb hby at_180) rfl ?_
              exact kt
            by_cases hb120 : c1 = d1
            · have pre121 : ∀ t, Steps p.tables e below (T103.setTop (mkF m 190 (la15 p0 p1 p2 n1 n2 (0 : Int32) c0 c1 d0 d1 r_87 b89 b97) [(.int 1)])) t → Steps p.tables e below (s₁.setTop (entryFrame m #[(.int p0), (.int p1), (.int p2)] maxLocals)) t := by
                intro t kt
                refine pre119 t ?_
                show GO p e below T103 (mkF m 182 (la15 p0 p1 p2 n1 n2 (0 : Int32) c0 c1 d0 d1 r_87 b89 b97) [(.int d1), (.int c1)]) _
                refine XS.icmpNo X103.here hx rfl (hb hby at_182) rfl (teq (hb120 : c1 = d1)).2 ?_
                show GO p e below T103 (mkF m 185 (la15 p0 p1 p2 n1 n2 (0 : Int32) c0 c1 d0 d1 r_87 b89 b97) []) _
                refine XS.iconst X103.here hx rfl (hb hby at_185) ?_
                show GO p e below T103 (mkF m 186 (la15 p0 p1 p2 n1 n2 (0 : Int32) c0 c1 d0 d1 r_87 b89 b97) [(.int 1)]) _
                refine XS.goto X103.here hx rfl (pc0 := 186) (pc' := 190) rfl (hb hby at_186) (by decide) (by decide) ?_
                exact kt
              exact ⟨(1 : Int32), (by rw [own_same, if_pos ⟨hb113, Or.inl hb115, Or.inr hb120⟩]), fun t kt => pre121 t kt⟩
            · have pre122 : ∀ t, Steps p.tables e below (T103.setTop (mkF m 190 (la15 p0 p1 p2 n1 n2 (0 : Int32) c0 c1 d0 d1 r_87 b89 b97) [(.int 0)])) t → Steps p.tables e below (s₁.setTop (entryFrame m #[(.int p0), (.int p1), (.int p2)] maxLocals)) t := by
                intro t kt
                refine pre119 t ?_
                show GO p e below T103 (mkF m 182 (la15 p0 p1 p2 n1 n2 (0 : Int32) c0 c1 d0 d1 r_87 b89 b97) [(.int d1), (.int c1)]) _
                refine XS.icmpYes X103.here hx rfl (pc0 := 182) (pc' := 189) rfl (hb hby at_182) rfl (feq (hb120 : ¬ (c1 = d1))).2 (by decide) (by decide) ?_
                show GO p e below T103 (mkF m 189 (la15 p0 p1 p2 n1 n2 (0 : Int32) c0 c1 d0 d1 r_87 b89 b97) []) _
                refine XS.iconst X103.here hx rfl (hb hby at_189) ?_
                exact kt
              exact ⟨(0 : Int32), (by rw [own_same, if_neg (fun q => q.2.2.elim hb117 hb120)]), fun t kt => pre122 t kt⟩
        · have pre123 : ∀ t, Steps p.tables e below (T103.setTop (mkF m 170 (la15 p0 p1 p2 n1 n2 (0 : Int32) c0 c1 d0 d1 r_87 b89 b97) [(.int d0), (.int c0)])) t → Steps p.tables e below (s₁.setTop (entryFrame m #[(.int p0), (.int p1), (.int p2)] maxLocals)) t := by
            intro t kt
            refine pre114 t ?_
            show GO p e below T103 (mkF m 163 (la15 p0 p1 p2 n1 n2 (0 : Int32) c0 c1 d0 d1 r_87 b89 b97) [(.int 1), (.int n1)]) _
            refine XS.icmpNo X103.here hx rfl (hb hby at_163) rfl (flt (hb115 : ¬ (n1 < (1 : Int32)))).1 ?_
            show GO p e below T103 (mkF m 166 (la15 p0 p1 p2 n1 n2 (0 : Int32) c0 c1 d0 d1 r_87 b89 b97) []) _
            refine XS.iload X103.here hx rfl (hb hby at_166) rfl ?_
            show GO p e below T103 (mkF m 168 (la15 p0 p1 p2 n1 n2 (0 : Int32) c0 c1 d0 d1 r_87 b89 b97) [(.int c0)]) _
            refine XS.iload X103.here hx rfl (hb hby at_168) rfl ?_
            exact kt
          by_cases hb124 : c0 = d0
          · have pre125 : ∀ t, Steps p.tables e below (T103.setTop (mkF m 175 (la15 p0 p1 p2 n1 n2 (0 : Int32) c0 c1 d0 d1 r_87 b89 b97) [(.int 2), (.int n1)])) t → Steps p.tables e below (s₁.setTop (entryFrame m #[(.int p0), (.int p1), (.int p2)] maxLocals)) t := by
              intro t kt
              refine pre123 t ?_
              show GO p e below T103 (mkF m 170 (la15 p0 p1 p2 n1 n2 (0 : Int32) c0 c1 d0 d1 r_87 b89 b97) [(.int d0), (.int c0)]) _
              refine XS.icmpNo X103.here hx rfl (hb hby at_170) rfl (teq (hb124 : c0 = d0)).2 ?_
              show GO p e below T103 (mkF m 173 (la15 p0 p1 p2 n1 n2 (0 : Int32) c0 c1 d0 d1 r_87 b89 b97) []) _
              refine XS.iloadN X103.here hx rfl (hb hby at_173) rfl ?_
              show GO p e below T103 (mkF m 174 (la15 p0 p1 p2 n1 n2 (0 : Int32) c0 c1 d0 d1 r_87 b89 b97) [(.int n1)]) _
              refine XS.iconst X103.here hx rfl (hb hby at_174) ?_
              exact kt
            by_cases hb126 : n1 < (2 : Int32)
            · have pre127 : ∀ t, Steps p.tables e below (T103.setTop (mkF m 190 (la15 p0 p1 p2 n1 n2 (0 : Int32) c0 c1 d0 d1 r_87 b89 b97) [(.int 1)])) t → Steps p.tables e below (s₁.setTop (entryFrame m #[(.int p0), (.int p1), (.int p2)] maxLocals)) t := by
                intro t kt
                refine pre125 t ?_
                show GO p e below T103 (mkF m 175 (la15 p0 p1 p2 n1 n2 (0 : Int32) c0 c1 d0 d1 r_87 b89 b97) [(.int 2), (.int n1)]) _
                refine XS.icmpYes X103.here hx rfl (pc0 := 175) (pc' := 185) rfl (hb hby at_175) rfl (tlt (hb126 : n1 < (2 : Int32))).1 (by decide) (by decide) ?_
                show GO p e below T103 (mkF m 185 (la15 p0 p1 p2 n1 n2 (0 : Int32) c0 c1 d0 d1 r_87 b89 b97) []) _
                refine XS.iconst X103.here hx rfl (hb hby at_185) ?_
                show GO p e below T103 (mkF m 186 (la15 p0 p1 p2 n1 n2 (0 : Int32) c0 c1 d0 d1 r_87 b89 b97) [(.int 1)]) _
                refine XS.goto X103.here hx rfl (pc0 := 186) (pc' := 190) rfl (hb hby at_186) (by decide) (by decide) ?_
                exact kt
              exact ⟨(1 : Int32), (by rw [own_same, if_pos ⟨hb113, Or.inr hb124, Or.inl hb126⟩]), fun t kt => pre127 t kt⟩
            · have pre128 : ∀ t, Steps p.tables e below (T103.setTop (mkF m 182 (la15 p0 p1 p2 n1 n2 (0 : Int32) c0 c1 d0 d1 r_87 b89 b97) [(.int d1), (.int c1)])) t → Steps p.tables e below (s₁.setTop (entryFrame m #[(.int p0), (.int p1), (.int p2)] maxLocals)) t := by
                intro t kt
                refine pre125 t ?_
                show GO p e below T103 (mkF m 175 (la15 p0 p1 p2 n1 n2 (0 : Int32) c0 c1 d0 d1 r_87 b89 b97) [(.int 2), (.int n1)]) _
                refine XS.icmpNo X103.here hx rfl (hb hby at_175) rfl (flt (hb126 : ¬ (n1 < (2 : Int32)))).1 ?_
                show GO p e below T103 (mkF m 178 (la15 p0 p1 p2 n1 n2 (0 : Int32) c0 c1 d0 d1 r_87 b89 b97) []) _
                refine XS.iload X103.here hx rfl (hb hby at_178) rfl ?_
                show GO p e below T103 (mkF m 180 (la15 p0 p1 p2 n1 n2 (0 : Int32) c0 c1 d0 d1 r_87 b89 b97) [(.int c1)]) _
                refine XS.iload X103.here hx rfl (hb hby at_180) rfl ?_
                exact kt
              by_cases hb129 : c1 = d1
              · have pre130 : ∀ t, Steps p.tables e below (T103.setTop (mkF m 190 (la15 p0 p1 p2 n1 n2 (0 : Int32) c0 c1 d0 d1 r_87 b89 b97) [(.int 1)])) t → Steps p.tables e below (s₁.setTop (entryFrame m #[(.int p0), (.int p1), (.int p2)] maxLocals)) t := by
                  intro t kt
                  refine pre128 t ?_
                  show GO p e below T103 (mkF m 182 (la15 p0 p1 p2 n1 n2 (0 : Int32) c0 c1 d0 d1 r_87 b89 b97) [(.int d1), (.int c1)]) _
                  refine XS.icmpNo X103.here hx rfl (hb hby at_182) rfl (teq (hb129 : c1 = d1)).2 ?_
                  show GO p e below T103 (mkF m 185 (la15 p0 p1 p2 n1 n2 (0 : Int32) c0 c1 d0 d1 r_87 b89 b97) []) _
                  refine XS.iconst X103.here hx rfl (hb hby at_185) ?_
                  show GO p e below T103 (mkF m 186 (la15 p0 p1 p2 n1 n2 (0 : Int32) c0 c1 d0 d1 r_87 b89 b97) [(.int 1)]) _
                  refine XS.goto X103.here hx rfl (pc0 := 186) (pc' := 190) rfl (hb hby at_186) (by decide) (by decide) ?_
                  exact kt
                exact ⟨(1 : Int32), (by rw [own_same, if_pos ⟨hb113, Or.inr hb124, Or.inr hb129⟩]), fun t kt => pre130 t kt⟩
              · have pre131 : ∀ t, Steps p.tables e below (T103.setTop (mkF m 190 (la15 p0 p1 p2 n1 n2 (0 : Int32) c0 c1 d0 d1 r_87 b89 b97) [(.int 0)])) t → Steps p.tables e below (s₁.setTop (entryFrame m #[(.int p0), (.int p1), (.int p2)] maxLocals)) t := by
                  intro t kt
                  refine pre128 t ?_
                  show GO p e below T103 (mkF m 182 (la15 p0 p1 p2 n1 n2 (0 : Int32) c0 c1 d0 d1 r_87 b89 b97) [(.int d1), (.int c1)]) _
                  refine XS.icmpYes X103.here hx rfl (pc0 := 182) (pc' := 189) rfl (hb hby at_182) rfl (feq (hb129 : ¬ (c1 = d1))).2 (by decide) (by decide) ?_
                  show GO p e below T103 (mkF m 189 (la15 p0 p1 p2 n1 n2 (0 : Int32) c0 c1 d0 d1 r_87 b89 b97) []) _
                  refine XS.iconst X103.here hx rfl (hb hby at_189) ?_
                  exact kt
                exact ⟨(0 : Int32), (by rw [own_same, if_neg (fun q => q.2.2.elim hb126 hb129)]), fun t kt => pre131 t kt⟩
          · have pre132 : ∀ t, Steps p.tables e below (T103.setTop (mkF m 190 (la15 p0 p1 p2 n1 n2 (0 : Int32) c0 c1 d0 d1 r_87 b89 b97) [(.int 0)])) t → Steps p.tables e below (s₁.setTop (entryFrame m #[(.int p0), (.int p1), (.int p2)] maxLocals)) t := by
              intro t kt
              refine pre123 t ?_
              show GO p e below T103 (mkF m 170 (la15 p0 p1 p2 n1 n2 (0 : Int32) c0 c1 d0 d1 r_87 b89 b97) [(.int d0), (.int c0)]) _
              refine XS.icmpYes X103.here hx rfl (pc0 := 170) (pc' := 189) rfl (hb hby at_170) rfl (feq (hb124 : ¬ (c0 = d0))).2 (by decide) (by decide) ?_
              show GO p e below T103 (mkF m 189 (la15 p0 p1 p2 n1 n2 (0 : Int32) c0 c1 d0 d1 r_87 b89 b97) []) _
              refine XS.iconst X103.here hx rfl (hb hby at_189) ?_
              exact kt
            exact ⟨(0 : Int32), (by rw [own_same, if_neg (fun q => q.2.1.elim hb115 hb124)]), fun t kt => pre132 t kt⟩
      · have pre133 : ∀ t, Steps p.tables e below (T103.setTop (mkF m 190 (la15 p0 p1 p2 n1 n2 (0 : Int32) c0 c1 d0 d1 r_87 b89 b97) [(.int 0)])) t → Steps p.tables e below (s₁.setTop (entryFrame m #[(.int p0), (.int p1), (.int p2)] maxLocals)) t := by
          intro t kt
          refine pre112 t ?_
          show GO p e below T103 (mkF m 158 (la15 p0 p1 p2 n1 n2 (0 : Int32) c0 c1 d0 d1 r_87 b89 b97) [(.int n2), (.int n1)]) _
          refine XS.icmpYes X103.here hx rfl (pc0 := 158) (pc' := 189) rfl (hb hby at_158) rfl (feq (hb113 : ¬ (n1 = n2))).2 (by decide) (by decide) ?_
          show GO p e below T103 (mkF m 189 (la15 p0 p1 p2 n1 n2 (0 : Int32) c0 c1 d0 d1 r_87 b89 b97) []) _
          refine XS.iconst X103.here hx rfl (hb hby at_189) ?_
          exact kt
        exact ⟨(0 : Int32), (by rw [own_same, if_neg (fun q => hb113 q.1)]), fun t kt => pre133 t kt⟩
    have pre134 : ∀ t, Steps p.tables e below (T103.setTop (mkF m 199 (la16 p0 p1 p2 n1 n2 (0 : Int32) c0 c1 d0 d1 r_87 b89 b97 vv) [(.int vv)])) t → Steps p.tables e below (s₁.setTop (entryFrame m #[(.int p0), (.int p1), (.int p2)] maxLocals)) t := by
      intro t kt
      refine pre111 t ?_
      show GO p e below T103 (mkF m 190 (la15 p0 p1 p2 n1 n2 (0 : Int32) c0 c1 d0 d1 r_87 b89 b97) [(.int vv)]) _
      refine XS.istore X103.here hx rfl (hb hby at_190) rfl (l' := (la16 p0 p1 p2 n1 n2 (0 : Int32) c0 c1 d0 d1 r_87 b89 b97 vv)) rfl ?_
      show GO p e below T103 (mkF m 192 (la16 p0 p1 p2 n1 n2 (0 : Int32) c0 c1 d0 d1 r_87 b89 b97 vv) []) _
      refine XS.iload X103.here hx rfl (hb hby at_192) rfl ?_
      show GO p e below T103 (mkF m 194 (la16 p0 p1 p2 n1 n2 (0 : Int32) c0 c1 d0 d1 r_87 b89 b97 vv) [(.int 0)]) _
      refine XS.ifNo X103.here hx rfl (hb hby at_194) rfl ((if0 _ _).trans (teq (rfl : (0 : Int32) = (0 : Int32))).2) ?_
      show GO p e below T103 (mkF m 197 (la16 p0 p1 p2 n1 n2 (0 : Int32) c0 c1 d0 d1 r_87 b89 b97 vv) []) _
      refine XS.iload X103.here hx rfl (hb hby at_197) rfl ?_
      exact kt
    by_cases hb135 : vv = (0 : Int32)
    · -- pc 219: BooleanVariable.equals by rm_eqb
      have f137 : Old Z n0 h103 := ((f101.keep K100 all0).keep K103 (allS (by omega) all0))
      have f138 : Fld Z h103 b89 kS0 "name" "Ljava/lang/String;" (.ref r_87) := (((p92_1.ext E97).keep K100 nin0).keep K103 (ninS (neN (by omega)) nin0))
      have f139 : Exa Z h103 r_87 "java/lang/String" := (((((p87_0.ext E89).keep K92).ext E97).keep K100).keep K103)
      have f140 : Fld Z h103 r_87 "java/lang/String" "coder" "B" (.int 0) := (((((p87_1.ext E89).keep K92 (ninS (neN (by omega)) nin0)).ext E97).keep K100 nin0).keep K103 (ninS (neN (by omega)) nin0))
      have f141 : Fld Z h103 r_87 "java/lang/String" "value" "[B" (.ref t_87) := (((((p87_2.ext E89).keep K92 (ninS (neN (by omega)) nin0)).ext E97).keep K100 nin0).keep K103 (ninS (neN (by omega)) nin0))
      have f142 : Arv Z h103 t_87 k_87 .byte N_87 vs_87 (.int 0) := (f107.keep K103 (ninS (Ne.symm ne108) nin0))
      have f143 : Exa Z h103 r_100 "java/lang/String" := (p100_0.keep K103)
      have f144 : Fld Z h103 r_100 "java/lang/String" "coder" "B" (.int 0) := (p100_1.keep K103 (ninS (neN (by omega)) nin0))
      have f145 : Fld Z h103 r_100 "java/lang/String" "value" "[B" (.ref t_100) := (p100_2.keep K103 (ninS (neN (by omega)) nin0))
      have f146 : Arv Z h103 t_100 k_100 .byte N_100 vs_100 (.int 0) := (p100_3.keep K103 (ninS (Ne.symm ne106) nin0))
      have f147 : Exa Z h103 b89 kS0 := (((p92_0.ext E97).keep K100).keep K103)
      obtain ⟨cq136, kq136, q136a, q136b, q136c⟩ := isOf hZ100 e103 f147
      obtain ⟨_, _, ⟨T136, L136, k136, n136⟩, -, X136, ⟨Lc136, hQ136, l136, y136, z136⟩, st136⟩ := X103.virtualBack hx (y := (⟨kS0, "equals", "(Ljava/lang/Object;)Z"⟩ : MethodName)) (z := (⟨kS0, "equals", "(Ljava/lang/Object;)Z"⟩ : MethodName)) hown100 (mvT hZ100 (wd hw 35 rfl)) (mvT hZ100 (wd hw 36 rfl)) (notFace_of_selects (args := #[]) (mvT hZ100 (wd hw 38 rfl))) (mvT hZ100 (wd hw 38 rfl)) (mvT hZ100 (wd hw 37 rfl)) (by decide) (backOf (W := 0) (rm_eqb l Z a0 hw [] b89 b97 z0 r_87 t_87 k_87 N_87 vs_87 (own_cs n1 c0 c1) r_100 t_100 k_100 N_100 vs_100 (own_cs n2 d0 d1) h103 n0 (by omega) f137 p103_0 f138 p103_1 f139 f140 f141 f142 f143 f144 f145 f146 (by first | assumption | decide | omega | exact neN (by omega)) (by first | assumption | decide | omega | exact neN (by omega)) r87_1 r87_2 r87_3 r100_1 r100_2 r100_3) hZ100 (wd hw 39 rfl) (wd hw 28 rfl) (by decide) (by decide)) q136a q136c (g := (mkF m 219 (la17 p0 p1 p2 n1 n2 (0 : Int32) c0 c1 d0 d1 r_87 b89 b97 vv (0 : Int32)) [(.ref b97), (.ref b89)])) rfl (by rw [hml]; rfl) (Steps.refl _) (argsL := [(.ref b97)]) (rest := []) (lenOf pd_2 rfl) rfl (by show 2 * 0 + _ ≤ _; exact Nat.le_of_eq rfl) (hb hby at_219) (fun _ _ => ⟨rfl, e103, (by decide : 14 + 0 ≤ _), (by decide : 26 + 0 ≤ _)⟩)
      dsimp only [Pt.U, Pt.locs, Pt.cells, Pt.slots] at X136 l136 y136 z136 st136 hQ136
      subst l136 y136 z136
      obtain ⟨rfl, N136q, e136⟩ := hQ136
      have N136 := Fr.app N103 N136q
      obtain ⟨fs, hr, hrun, hended, hE⟩ := X136.leaveW hS100 (by rw [e136]; omega) (v := some (.int 1)) (fun h => by rw [Bd.returns] at h; cases h)
      have CE := C109.trans (CHv.at X136 hZ100 (own_EW hw) C109.1)
      refine ⟨_, _, pre134 _ ?_, hrun, hended, _, _, rfl, ?_, ?_, ⟨hE.1, hE.2.1, hE.2.2.1, hE.2.2.2.mono (by decide) (by decide)⟩⟩
      · show GO p e below T103 (mkF m 199 (la16 p0 p1 p2 n1 n2 (0 : Int32) c0 c1 d0 d1 r_87 b89 b97 vv) [(.int vv)]) _
        refine XS.ifNo X103.here hx rfl (hb hby at_199) rfl ((if0 _ _).trans (teq (hb135 : vv = (0 : Int32))).2) ?_
        show GO p e below T103 (mkF m 202 (la16 p0 p1 p2 n1 n2 (0 : Int32) c0 c1 d0 d1 r_87 b89 b97 vv) []) _
        refine XS.iload X103.here hx rfl (hb hby at_202) rfl ?_
        show GO p e below T103 (mkF m 204 (la16 p0 p1 p2 n1 n2 (0 : Int32) c0 c1 d0 d1 r_87 b89 b97 vv) [(.int 0)]) _
        refine XS.iconst X103.here hx rfl (hb hby at_204) ?_
        show GO p e below T103 (mkF m 205 (la16 p0 p1 p2 n1 n2 (0 : Int32) c0 c1 d0 d1 r_87 b89 b97 vv) [(.int 1), (.int 0)]) _
        refine XS.icmpYes X103.here hx rfl (pc0 := 205) (pc' := 212) rfl (hb hby at_205) rfl (feq ((by decide) : ¬ ((0 : Int32) = (1 : Int32)))).2 (by decide) (by decide) ?_
        show GO p e below T103 (mkF m 212 (la16 p0 p1 p2 n1 n2 (0 : Int32) c0 c1 d0 d1 r_87 b89 b97 vv) []) _
        refine XS.iconst X103.here hx rfl (hb hby at_212) ?_
        show GO p e below T103 (mkF m 213 (la16 p0 p1 p2 n1 n2 (0 : Int32) c0 c1 d0 d1 r_87 b89 b97 vv) [(.int 0)]) _
        refine XS.istore X103.here hx rfl (hb hby at_213) rfl (l' := (la17 p0 p1 p2 n1 n2 (0 : Int32) c0 c1 d0 d1 r_87 b89 b97 vv (0 : Int32))) rfl ?_
        show GO p e below T103 (mkF m 215 (la17 p0 p1 p2 n1 n2 (0 : Int32) c0 c1 d0 d1 r_87 b89 b97 vv (0 : Int32)) []) _
        refine XS.aload X103.here hx rfl (hb hby at_215) rfl rfl ?_
        show GO p e below T103 (mkF m 217 (la17 p0 p1 p2 n1 n2 (0 : Int32) c0 c1 d0 d1 r_87 b89 b97 vv (0 : Int32)) [(.ref b89)]) _
        refine XS.aload X103.here hx rfl (hb hby at_217) rfl rfl ?_
        show GO p e below T103 (mkF m 219 (la17 p0 p1 p2 n1 n2 (0 : Int32) c0 c1 d0 d1 r_87 b89 b97 vv (0 : Int32)) [(.ref b97), (.ref b89)]) _
        refine st136.trans ?_
        show GO p e below T136 (mkF m 222 (la17 p0 p1 p2 n1 n2 (0 : Int32) c0 c1 d0 d1 r_87 b89 b97 vv (0 : Int32)) [(.int (own_eqs (own_cs n1 c0 c1) (own_cs n2 d0 d1)))]) _
        refine XS.iload X136.here hx rfl (hb hby at_222) rfl ?_
        show GO p e below T136 (mkF m 224 (la17 p0 p1 p2 n1 n2 (0 : Int32) c0 c1 d0 d1 r_87 b89 b97 vv (0 : Int32)) [(.int 0), (.int (own_eqs (own_cs n1 c0 c1) (own_cs n2 d0 d1)))]) _
        refine XS.icmpNo X136.here hx rfl (hb hby at_224) rfl (teq ((own_law0 g1 g2 hvv hb135) : (own_eqs (own_cs n1 c0 c1) (own_cs n2 d0 d1)) = (0 : Int32))).2 ?_
        show GO p e below T136 (mkF m 227 (la17 p0 p1 p2 n1 n2 (0 : Int32) c0 c1 d0 d1 r_87 b89 b97 vv (0 : Int32)) []) _
        refine XS.iconst X136.here hx rfl (hb hby at_227) ?_
        show GO p e below T136 (mkF m 228 (la17 p0 p1 p2 n1 n2 (0 : Int32) c0 c1 d0 d1 r_87 b89 b97 vv (0 : Int32)) [(.int 1)]) _
        refine XS.goto X136.here hx rfl (pc0 := 228) (pc' := 232) rfl (hb hby at_228) (by decide) (by decide) ?_
        show GO p e below T136 (mkF m 232 (la17 p0 p1 p2 n1 n2 (0 : Int32) c0 c1 d0 d1 r_87 b89 b97 vv (0 : Int32)) [(.int 1)]) _
        exact retN X136 hx (t := .boolean) Bd.returns (by simp) (hb hby at_232) hr
      · show Qrm0 Z p0 p1 p2 z0 h0 n0 _ T136.heap _
        rw [e136]
        exact ⟨rfl, N136⟩
      · show CHr Z EL1 s.vm s.heap T136.vm T136.heap
        rw [hh, e136]
        exact CE
    · -- pc 219: BooleanVariable.equals by rm_eqb
      have f149 : Old Z n0 h103 := ((f101.keep K100 all0).keep K103 (allS (by omega) all0))
      have f150 : Fld Z h103 b89 kS0 "name" "Ljava/lang/String;" (.ref r_87) := (((p92_1.ext E97).keep K100 nin0).keep K103 (ninS (neN (by omega)) nin0))
      have f151 : Exa Z h103 r_87 "java/lang/String" := (((((p87_0.ext E89).keep K92).ext E97).keep K100).keep K103)
      have f152 : Fld Z h103 r_87 "java/lang/String" "coder" "B" (.int 0) := (((((p87_1.ext E89).keep K92 (ninS (neN (by omega)) nin0)).ext E97).keep K100 nin0).keep K103 (ninS (neN (by omega)) nin0))
      have f153 : Fld Z h103 r_87 "java/lang/String" "value" "[B" (.ref t_87) := (((((p87_2.ext E89).keep K92 (ninS (neN (by omega)) nin0)).ext E97).keep K100 nin0).keep K103 (ninS (neN (by omega)) nin0))
      have f154 : Arv Z h103 t_87 k_87 .byte N_87 vs_87 (.int 0) := (f107.keep K103 (ninS (Ne.symm ne108) nin0))
      have f155 : Exa Z h103 r_100 "java/lang/String" := (p100_0.keep K103)
      have f156 : Fld Z h103 r_100 "java/lang/String" "coder" "B" (.int 0) := (p100_1.keep K103 (ninS (neN (by omega)) nin0))
      have f157 : Fld Z h103 r_100 "java/lang/String" "value" "[B" (.ref t_100) := (p100_2.keep K103 (ninS (neN (by omega)) nin0))
      have f158 : Arv Z h103 t_100 k_100 .byte N_100 vs_100 (.int 0) := (p100_3.keep K103 (ninS (Ne.symm ne106) nin0))
      have f159 : Exa Z h103 b89 kS0 := (((p92_0.ext E97).keep K100).keep K103)
      obtain ⟨cq148, kq148, q148a, q148b, q148c⟩ := isOf hZ100 e103 f159
      obtain ⟨_, _, ⟨T148, L148, k148, n148⟩, -, X148, ⟨Lc148, hQ148, l148, y148, z148⟩, st148⟩ := X103.virtualBack hx (y := (⟨kS0, "equals", "(Ljava/lang/Object;)Z"⟩ : MethodName)) (z := (⟨kS0, "equals", "(Ljava/lang/Object;)Z"⟩ : MethodName)) hown100 (mvT hZ100 (wd hw 35 rfl)) (mvT hZ100 (wd hw 36 rfl)) (notFace_of_selects (args := #[]) (mvT hZ100 (wd hw 38 rfl))) (mvT hZ100 (wd hw 38 rfl)) (mvT hZ100 (wd hw 37 rfl)) (by decide) (backOf (W := 0) (rm_eqb l Z a0 hw [] b89 b97 z0 r_87 t_87 k_87 N_87 vs_87 (own_cs n1 c0 c1) r_100 t_100 k_100 N_100 vs_100 (own_cs n2 d0 d1) h103 n0 (by omega) f149 p103_0 f150 p103_1 f151 f152 f153 f154 f155 f156 f157 f158 (by first | assumption | decide | omega | exact neN (by omega)) (by first | assumption | decide | omega | exact neN (by omega)) r87_1 r87_2 r87_3 r100_1 r100_2 r100_3) hZ100 (wd hw 39 rfl) (wd hw 28 rfl) (by decide) (by decide)) q148a q148c (g := (mkF m 219 (la17 p0 p1 p2 n1 n2 (0 : Int32) c0 c1 d0 d1 r_87 b89 b97 vv (1 : Int32)) [(.ref b97), (.ref b89)])) rfl (by rw [hml]; rfl) (Steps.refl _) (argsL := [(.ref b97)]) (rest := []) (lenOf pd_2 rfl) rfl (by show 2 * 0 + _ ≤ _; exact Nat.le_of_eq rfl) (hb hby at_219) (fun _ _ => ⟨rfl, e103, (by decide : 14 + 0 ≤ _), (by decide : 26 + 0 ≤ _)⟩)
      dsimp only [Pt.U, Pt.locs, Pt.cells, Pt.slots] at X148 l148 y148 z148 st148 hQ148
      subst l148 y148 z148
      obtain ⟨rfl, N148q, e148⟩ := hQ148
      have N148 := Fr.app N103 N148q
      obtain ⟨fs, hr, hrun, hended, hE⟩ := X148.leaveW hS100 (by rw [e148]; omega) (v := some (.int 1)) (fun h => by rw [Bd.returns] at h; cases h)
      have CE := C109.trans (CHv.at X148 hZ100 (own_EW hw) C109.1)
      refine ⟨_, _, pre134 _ ?_, hrun, hended, _, _, rfl, ?_, ?_, ⟨hE.1, hE.2.1, hE.2.2.1, hE.2.2.2.mono (by decide) (by decide)⟩⟩
      · show GO p e below T103 (mkF m 199 (la16 p0 p1 p2 n1 n2 (0 : Int32) c0 c1 d0 d1 r_87 b89 b97 vv) [(.int vv)]) _
        refine XS.ifYes X103.here hx rfl (pc0 := 199) (pc' := 208) rfl (hb hby at_199) rfl ((if0 _ _).trans (feq (hb135 : ¬ (vv = (0 : Int32)))).2) (by decide) (by decide) ?_
        show GO p e below T103 (mkF m 208 (la16 p0 p1 p2 n1 n2 (0 : Int32) c0 c1 d0 d1 r_87 b89 b97 vv) []) _
        refine XS.iconst X103.here hx rfl (hb hby at_208) ?_
        show GO p e below T103 (mkF m 209 (la16 p0 p1 p2 n1 n2 (0 : Int32) c0 c1 d0 d1 r_87 b89 b97 vv) [(.int 1)]) _
        refine XS.goto X103.here hx rfl (pc0 := 209) (pc' := 213) rfl (hb hby at_209) (by decide) (by decide) ?_
        show GO p e below T103 (mkF m 213 (la16 p0 p1 p2 n1 n2 (0 : Int32) c0 c1 d0 d1 r_87 b89 b97 vv) [(.int 1)]) _
        refine XS.istore X103.here hx rfl (hb hby at_213) rfl (l' := (la17 p0 p1 p2 n1 n2 (0 : Int32) c0 c1 d0 d1 r_87 b89 b97 vv (1 : Int32))) rfl ?_
        show GO p e below T103 (mkF m 215 (la17 p0 p1 p2 n1 n2 (0 : Int32) c0 c1 d0 d1 r_87 b89 b97 vv (1 : Int32)) []) _
        refine XS.aload X103.here hx rfl (hb hby at_215) rfl rfl ?_
        show GO p e below T103 (mkF m 217 (la17 p0 p1 p2 n1 n2 (0 : Int32) c0 c1 d0 d1 r_87 b89 b97 vv (1 : Int32)) [(.ref b89)]) _
        refine XS.aload X103.here hx rfl (hb hby at_217) rfl rfl ?_
        show GO p e below T103 (mkF m 219 (la17 p0 p1 p2 n1 n2 (0 : Int32) c0 c1 d0 d1 r_87 b89 b97 vv (1 : Int32)) [(.ref b97), (.ref b89)]) _
        refine st148.trans ?_
        show GO p e below T148 (mkF m 222 (la17 p0 p1 p2 n1 n2 (0 : Int32) c0 c1 d0 d1 r_87 b89 b97 vv (1 : Int32)) [(.int (own_eqs (own_cs n1 c0 c1) (own_cs n2 d0 d1)))]) _
        refine XS.iload X148.here hx rfl (hb hby at_222) rfl ?_
        show GO p e below T148 (mkF m 224 (la17 p0 p1 p2 n1 n2 (0 : Int32) c0 c1 d0 d1 r_87 b89 b97 vv (1 : Int32)) [(.int 1), (.int (own_eqs (own_cs n1 c0 c1) (own_cs n2 d0 d1)))]) _
        refine XS.icmpNo X148.here hx rfl (hb hby at_224) rfl (teq ((own_law1 g1 g2 hvv hb135) : (own_eqs (own_cs n1 c0 c1) (own_cs n2 d0 d1)) = (1 : Int32))).2 ?_
        show GO p e below T148 (mkF m 227 (la17 p0 p1 p2 n1 n2 (0 : Int32) c0 c1 d0 d1 r_87 b89 b97 vv (1 : Int32)) []) _
        refine XS.iconst X148.here hx rfl (hb hby at_227) ?_
        show GO p e below T148 (mkF m 228 (la17 p0 p1 p2 n1 n2 (0 : Int32) c0 c1 d0 d1 r_87 b89 b97 vv (1 : Int32)) [(.int 1)]) _
        refine XS.goto X148.here hx rfl (pc0 := 228) (pc' := 232) rfl (hb hby at_228) (by decide) (by decide) ?_
        show GO p e below T148 (mkF m 232 (la17 p0 p1 p2 n1 n2 (0 : Int32) c0 c1 d0 d1 r_87 b89 b97 vv (1 : Int32)) [(.int 1)]) _
        exact retN X148 hx (t := .boolean) Bd.returns (by simp) (hb hby at_232) hr
      · show Qrm0 Z p0 p1 p2 z0 h0 n0 _ T148.heap _
        rw [e148]
        exact ⟨rfl, N148⟩
      · show CHr Z EL1 s.vm s.heap T148.vm T148.heap
        rw [hh, e148]
        exact CE
  · obtain ⟨T160, h160, X160, e160, E160, A160, D160, U160, st160⟩ := newO X92 hx hZ87 hown87 (wd hw 26 rfl) (wd hw 27 rfl) (wd hw 28 rfl) e92 (g := (mkF m 113 (la14 p0 p1 p2 n1 n2 (1 : Int32) c0 c1 d0 d1 r_87 b89) [])) rfl (hb hby at_113) (by decide) (by decide)
    obtain ⟨b160, g160⟩ : ∃ z, z = h92.size := ⟨_, rfl⟩
    rw [← g160] at A160 D160 U160 st160
    have C161 : CHr Z EL1 s.vm h0 T87.vm h160 := C95.trans (CHr.ext E160 C95.1)
    have sz160 : h92.size ≤ h160.size := E160.1
    have lt160 := ltA A160.lt
    have f162 : Fld Z h160 b160 kS0 "name" "Ljava/lang/String;" .null := D160 (Or.inr (wd hw 34 rfl)) (ty := (.object "java/lang/String")) (by decide)
    -- pc 122: BooleanVariableEqualsPinLaw.make by rm_make
    have f164 : Old Z n0 h160 := ((((O0.keep K87 all0).ext E89).keep K92 (allS (by omega) all0)).ext E160)
    obtain ⟨_, _, ⟨T163, L163, k163, n163⟩, -, X163w, hS163w, gr163, ⟨Lc163, hQ163, l163, y163, z163, C163w⟩, st163⟩ := callSS X160 hx (y := (⟨"com/example/casemax/casemax/xadd/BooleanVariableEqualsPinLaw", "make", "(ICC)Ljava/lang/String;"⟩ : MethodName)) hown87 (mvT hZ87 (wd hw 0 rfl)) (mvT hZ87 (wd hw 1 rfl)) (mvT hZ87 (wd hw 2 rfl)) (mvT hZ87 (wd hw 3 rfl)) (by decide) (own_backS (W := 2) (rm_make l Z a0 hw [] n1 c0 c1 z0 h160 n0 (by omega) f164 (by first | assumption | decide | omega | exact neN (by omega)) (by first | assumption | decide | omega | exact neN (by omega)) g1 rc0 rc1 qc0 qc1) hZ87 (wd hw 3 rfl) (wd hw 2 rfl) (by decide) (by decide) (own_EW hw) C161.1 sf0 all0) (g := (mkF m 122 (la14 p0 p1 p2 n1 n2 (1 : Int32) c0 c1 d0 d1 r_87 b89) [(.int c1), (.int c0), (.int n1), (.ref b160), (.ref b160)])) rfl (by rw [hml]; rfl) (argsL := [(.int n1), (.int c0), (.int c1)]) (rest := [(.ref b160), (.ref b160)]) (lenOf pd_3 rfl) rfl (by show 2 * 0 + _ ≤ _; exact Nat.le_of_eq rfl) (hb hby at_122) (fun _ _ => ⟨rfl, e160, (by decide : 8 + 6 ≤ _), (by decide : 14 + 12 ≤ _)⟩)
    dsimp only [Pt.U, Pt.locs, Pt.cells, Pt.slots] at X163w hS163w gr163 l163 y163 z163 st163 hQ163 C163w
    subst l163 y163 z163
    obtain ⟨X163, hS163, hZ163, hown163⟩ := rebS hS87 (by rw [e160]; omega) X163w hS163w gr163 hZ87 hown87
    obtain ⟨h163, e163⟩ : ∃ z, T163.heap = z := ⟨_, rfl⟩
    rw [e163] at hQ163
    obtain ⟨r_163, t_163, k_163, N_163, vs_163, rfl, N163q, K163, p163_0, p163_1, p163_2, p163_3, r163_0, r163_1, r163_2, r163_3⟩ := hQ163
    have N163 := Fr.app N92 N163q
    rw [e163] at C163w hS163
    have hk163 : h163.size ≤ h163.size := Nat.le_refl _
    have C165 : CHr Z EL1 s.vm h0 T163.vm h163 := C161.trans (C163w)
    have sz163 : h160.size ≤ h163.size := K163.1
    have lt163_0 := ltA p163_0.lt
    have lt163_3 := ltA p163_3.lt
    -- pc 125: BooleanVariable.<init> by rm_bv
    have f167 : Exa Z h163 b160 kS0 := (A160.keep K163)
    have f168 : Fld Z h163 b160 kS0 "name" "Ljava/lang/String;" .null := (f162.keep K163 nin0)
    obtain ⟨_, _, ⟨T166, L166, k166, n166⟩, -, X166, ⟨Lc166, hQ166, l166, y166, z166⟩, st166⟩ := X163.specialBack hx (y := (⟨kS0, "<init>", "(Ljava/lang/String;)V"⟩ : MethodName)) rfl hown163 (mvT hZ163 (wd hw 29 rfl)) (mvT hZ163 (wd hw 30 rfl)) (mvT hZ163 (wd hw 31 rfl)) (by decide) (backOf (W := 1) (rm_bv l Z a0 hw [] b160 r_163 .null h163 n0 (by omega) f167 f168 (by first | assumption | decide | omega | exact neN (by omega))) hZ163 (wd hw 31 rfl) (wd hw 28 rfl) (by decide) (by decide)) (g := (mkF m 125 (la14 p0 p1 p2 n1 n2 (1 : Int32) c0 c1 d0 d1 r_87 b89) [(.ref r_163), (.ref b160), (.ref b160)])) rfl (by rw [hml]; rfl) (Steps.refl _) (a := b160) (argsL := [(.ref r_163)]) (rest := [(.ref b160)]) (lenOf pd_4 rfl) rfl (by show 2 * 0 + _ ≤ _; exact Nat.le_of_eq rfl) (hb hby at_125) (fun _ _ => ⟨rfl, e163, (by decide : 14 + 0 ≤ _), (by decide : 26 + 0 ≤ _)⟩)
    dsimp only [Pt.U, Pt.locs, Pt.cells, Pt.slots] at X166 l166 y166 z166 st166 hQ166
    subst l166 y166 z166
    obtain ⟨h166, e166⟩ : ∃ z, T166.heap = z := ⟨_, rfl⟩
    rw [e166] at hQ166
    obtain ⟨rfl, N166q, K166, p166_0, p166_1⟩ := hQ166
    have N166 := Fr.app N163 N166q
    have ne169 : b160 ≠ t_163 := Exa.neArv f167 p163_3 (wd hw 27 rfl)
    have f170 : Arv Z h163 t_87 k_87 .byte N_87 vs_87 (.int 0) := (((f93.keep K92 (ninS (Ne.symm ne94) nin0)).ext E160).keep K163 nin0)
    have ne171 : b160 ≠ t_87 := Exa.neArv f167 f170 (wd hw 27 rfl)
    have C172 : CHr Z EL1 s.vm h0 T163.vm h166 := C165.trans (CHr.keep K166 (sfS (Safe.exa hZ163.alike f167 (by decide) (by decide)) sf0) C165.1)
    have sz166 : h163.size ≤ h166.size := K166.1
    have lt166_0 := ltA p166_0.lt
    have pre173 : ∀ t, Steps p.tables e below (T166.setTop (mkF m 155 (la15 p0 p1 p2 n1 n2 (1 : Int32) c0 c1 d0 d1 r_87 b89 b160) [])) t → Steps p.tables e below (s₁.setTop (entryFrame m #[(.int p0), (.int p1), (.int p2)] maxLocals)) t := by
      intro t kt
      refine pre96 t ?_
      show GO p e below T92 (mkF m 83 (la14 p0 p1 p2 n1 n2 (1 : Int32) c0 c1 d0 d1 r_87 b89) [(.int 1)]) _
      refine XS.ifYes X92.here hx rfl (pc0 := 83) (pc' := 107) rfl (hb hby at_83) rfl ((if0 _ _).trans (feq ((by decide) : ¬ ((1 : Int32) = (0 : Int32)))).2) (by decide) (by decide) ?_
      show GO p e below T92 (mkF m 107 (la14 p0 p1 p2 n1 n2 (1 : Int32) c0 c1 d0 d1 r_87 b89) []) _
      refine XS.iload X92.here hx rfl (hb hby at_107) rfl ?_
      show GO p e below T92 (mkF m 109 (la14 p0 p1 p2 n1 n2 (1 : Int32) c0 c1 d0 d1 r_87 b89) [(.int 1)]) _
      refine XS.iconst X92.here hx rfl (hb hby at_109) ?_
      show GO p e below T92 (mkF m 110 (la14 p0 p1 p2 n1 n2 (1 : Int32) c0 c1 d0 d1 r_87 b89) [(.int 1), (.int 1)]) _
      refine XS.icmpNo X92.here hx rfl (hb hby at_110) rfl (teq (rfl : (1 : Int32) = (1 : Int32))).2 ?_
      show GO p e below T92 (mkF m 113 (la14 p0 p1 p2 n1 n2 (1 : Int32) c0 c1 d0 d1 r_87 b89) []) _
      refine st160 _ ?_
      show GO p e below T160 (mkF m 116 (la14 p0 p1 p2 n1 n2 (1 : Int32) c0 c1 d0 d1 r_87 b89) [(.ref b160)]) _
      refine XS.dup X160.here hx rfl (hb hby at_116) rfl rfl ?_
      show GO p e below T160 (mkF m 117 (la14 p0 p1 p2 n1 n2 (1 : Int32) c0 c1 d0 d1 r_87 b89) [(.ref b160), (.ref b160)]) _
      refine XS.iloadN X160.here hx rfl (hb hby at_117) rfl ?_
      show GO p e below T160 (mkF m 118 (la14 p0 p1 p2 n1 n2 (1 : Int32) c0 c1 d0 d1 r_87 b89) [(.int n1), (.ref b160), (.ref b160)]) _
      refine XS.iload X160.here hx rfl (hb hby at_118) rfl ?_
      show GO p e below T160 (mkF m 120 (la14 p0 p1 p2 n1 n2 (1 : Int32) c0 c1 d0 d1 r_87 b89) [(.int c0), (.int n1), (.ref b160), (.ref b160)]) _
      refine XS.iload X160.here hx rfl (hb hby at_120) rfl ?_
      show GO p e below T160 (mkF m 122 (la14 p0 p1 p2 n1 n2 (1 : Int32) c0 c1 d0 d1 r_87 b89) [(.int c1), (.int c0), (.int n1), (.ref b160), (.ref b160)]) _
      refine st163.trans ?_
      show GO p e below T163 (mkF m 125 (la14 p0 p1 p2 n1 n2 (1 : Int32) c0 c1 d0 d1 r_87 b89) [(.ref r_163), (.ref b160), (.ref b160)]) _
      refine st166.trans ?_
      show GO p e below T166 (mkF m 128 (la14 p0 p1 p2 n1 n2 (1 : Int32) c0 c1 d0 d1 r_87 b89) [(.ref b160)]) _
      refine XS.astore X166.here hx rfl (hb hby at_128) rfl rfl (l' := (la15 p0 p1 p2 n1 n2 (1 : Int32) c0 c1 d0 d1 r_87 b89 b160)) rfl ?_
      show GO p e below T166 (mkF m 130 (la15 p0 p1 p2 n1 n2 (1 : Int32) c0 c1 d0 d1 r_87 b89 b160) []) _
      refine XS.goto X166.here hx rfl (pc0 := 130) (pc' := 155) rfl (hb hby at_130) (by decide) (by decide) ?_
      exact kt
    obtain ⟨vv, hvv, pre174⟩ : ∃ vv : Int32, (vv = own_same n1 n2 c0 c1 d0 d1) ∧ ∀ t, Steps p.tables e below (T166.setTop (mkF m 190 (la15 p0 p1 p2 n1 n2 (1 : Int32) c0 c1 d0 d1 r_87 b89 b160) [(.int vv)])) t → Steps p.tables e below (s₁.setTop (entryFrame m #[(.int p0), (.int p1), (.int p2)] maxLocals)) t := by
      have pre175 : ∀ t, Steps p.tables e below (T166.setTop (mkF m 158 (la15 p0 p1 p2 n1 n2 (1 : Int32) c0 c1 d0 d1 r_87 b89 b160) [(.int n2), (.int n1)])) t → Steps p.tables e below (s₁.setTop (entryFrame m #[(.int p0), (.int p1), (.int p2)] maxLocals)) t := by
        intro t kt
        refine pre173 t ?_
        show GO p e below T166 (mkF m 155 (la15 p0 p1 p2 n1 n2 (1 : Int32) c0 c1 d0 d1 r_87 b89 b160) []) _
        refine XS.iloadN X166.here hx rfl (hb hby at_155) rfl ?_
        show GO p e below T166 (mkF m 156 (la15 p0 p1 p2 n1 n2 (1 : Int32) c0 c1 d0 d1 r_87 b89 b160) [(.int n1)]) _
        refine XS.iload X166.here hx rfl (hb hby at_156) rfl ?_
        exact kt
      by_cases hb176 : n1 = n2
      · have pre177 : ∀ t, Steps p.tables e below (T166.setTop (mkF m 163 (la15 p0 p1 p2 n1 n2 (1 : Int32) c0 c1 d0 d1 r_87 b89 b160) [(.int 1), (.int n1)])) t → Steps p.tables e below (s₁.setTop (entryFrame m #[(.int p0), (.int p1), (.int p2)] maxLocals)) t := by
          intro t kt
          refine pre175 t ?_
          show GO p e below T166 (mkF m 158 (la15 p0 p1 p2 n1 n2 (1 : Int32) c0 c1 d0 d1 r_87 b89 b160) [(.int n2), (.int n1)]) _
          refine XS.icmpNo X166.here hx rfl (hb hby at_158) rfl (teq (hb176 : n1 = n2)).2 ?_
          show GO p e below T166 (mkF m 161 (la15 p0 p1 p2 n1 n2 (1 : Int32) c0 c1 d0 d1 r_87 b89 b160) []) _
          refine XS.iloadN X166.here hx rfl (hb hby at_161) rfl ?_
          show GO p e below T166 (mkF m 162 (la15 p0 p1 p2 n1 n2 (1 : Int32) c0 c1 d0 d1 r_87 b89 b160) [(.int n1)]) _
          refine XS.iconst X166.here hx rfl (hb hby at_162) ?_
          exact kt
        by_cases hb178 : n1 < (1 : Int32)
        · have pre179 : ∀ t, Steps p.tables e below (T166.setTop (mkF m 175 (la15 p0 p1 p2 n1 n2 (1 : Int32) c0 c1 d0 d1 r_87 b89 b160) [(.int 2), (.int n1)])) t → Steps p.tables e below (s₁.setTop (entryFrame m #[(.int p0), (.int p1), (.int p2)] maxLocals)) t := by
            intro t kt
            refine pre177 t ?_
            show GO p e below T166 (mkF m 163 (la15 p0 p1 p2 n1 n2 (1 : Int32) c0 c1 d0 d1 r_87 b89 b160) [(.int 1), (.int n1)]) _
            refine XS.icmpYes X166.here hx rfl (pc0 := 163) (pc' := 173) rfl (hb hby at_163) rfl (tlt (hb178 : n1 < (1 : Int32))).1 (by decide) (by decide) ?_
            show GO p e below T166 (mkF m 173 (la15 p0 p1 p2 n1 n2 (1 : Int32) c0 c1 d0 d1 r_87 b89 b160) []) _
            refine XS.iloadN X166.here hx rfl (hb hby at_173) rfl ?_
            show GO p e below T166 (mkF m 174 (la15 p0 p1 p2 n1 n2 (1 : Int32) c0 c1 d0 d1 r_87 b89 b160) [(.int n1)]) _
            refine XS.iconst X166.here hx rfl (hb hby at_174) ?_
            exact kt
          by_cases hb180 : n1 < (2 : Int32)
          · have pre181 : ∀ t, Steps p.tables e below (T166.setTop (mkF m 190 (la15 p0 p1 p2 n1 n2 (1 : Int32) c0 c1 d0 d1 r_87 b89 b160) [(.int 1)])) t → Steps p.tables e below (s₁.setTop (entryFrame m #[(.int p0), (.int p1), (.int p2)] maxLocals)) t := by
              intro t kt
              refine pre179 t ?_
              show GO p e below T166 (mkF m 175 (la15 p0 p1 p2 n1 n2 (1 : Int32) c0 c1 d0 d1 r_87 b89 b160) [(.int 2), (.int n1)]) _
              refine XS.icmpYes X166.here hx rfl (pc0 := 175) (pc' := 185) rfl (hb hby at_175) rfl (tlt (hb180 : n1 < (2 : Int32))).1 (by decide) (by decide) ?_
              show GO p e below T166 (mkF m 185 (la15 p0 p1 p2 n1 n2 (1 : Int32) c0 c1 d0 d1 r_87 b89 b160) []) _
              refine XS.iconst X166.here hx rfl (hb hby at_185) ?_
              show GO p e below T166 (mkF m 186 (la15 p0 p1 p2 n1 n2 (1 : Int32) c0 c1 d0 d1 r_87 b89 b160) [(.int 1)]) _
              refine XS.goto X166.here hx rfl (pc0 := 186) (pc' := 190) rfl (hb hby at_186) (by decide) (by decide) ?_
              exact kt
            exact ⟨(1 : Int32), (by rw [own_same, if_pos ⟨hb176, Or.inl hb178, Or.inl hb180⟩]), fun t kt => pre181 t kt⟩
          · have pre182 : ∀ t, Steps p.tables e below (T166.setTop (mkF m 182 (la15 p0 p1 p2 n1 n2 (1 : Int32) c0 c1 d0 d1 r_87 b89 b160) [(.int d1), (.int c1)])) t → Steps p.tables e below (s₁.setTop (entryFrame m #[(.int p0), (.int p1), (.int p2)] maxLocals)) t := by
              intro t kt
              refine pre179 t ?_
              show GO p e below T166 (mkF m 175 (la15 p0 p1 p2 n1 n2 (1 : Int32) c0 c1 d0 d1 r_87 b89 b160) [(.int 2), (.int n1)]) _
              refine XS.icmpNo X166.here hx rfl (hb hby at_175) rfl (flt (hb180 : ¬ (n1 < (2 : Int32)))).1 ?_
              show GO p e below T166 (mkF m 178 (la15 p0 p1 p2 n1 n2 (1 : Int32) c0 c1 d0 d1 r_87 b89 b160) []) _
              refine XS.iload X166.here hx rfl (hb hby at_178) rfl ?_
              show GO p e below T166 (mkF m 180 (la15 p0 p1 p2 n1 n2 (1 : Int32) c0 c1 d0 d1 r_87 b89 b160) [(.int c1)]) _
              refine XS.iload X166.here hx rfl (hb hby at_180) rfl ?_
              exact kt
            by_cases hb183 : c1 = d1
            · have pre184 : ∀ t, Steps p.tables e below (T166.setTop (mkF m 190 (la15 p0 p1 p2 n1 n2 (1 : Int32) c0 c1 d0 d1 r_87 b89 b160) [(.int 1)])) t → Steps p.tables e below (s₁.setTop (entryFrame m #[(.int p0), (.int p1), (.int p2)] maxLocals)) t := by
                intro t kt
                refine pre182 t ?_
                show GO p e below T166 (mkF m 182 (la15 p0 p1 p2 n1 n2 (1 : Int32) c0 c1 d0 d1 r_87 b89 b160) [(.int d1), (.int c1)]) _
                refine XS.icmpNo X166.here hx rfl (hb hby at_182) rfl (teq (hb183 : c1 = d1)).2 ?_
                show GO p e below T166 (mkF m 185 (la15 p0 p1 p2 n1 n2 (1 : Int32) c0 c1 d0 d1 r_87 b89 b160) []) _
                refine XS.iconst X166.here hx rfl (hb hby at_185) ?_
                show GO p e below T166 (mkF m 186 (la15 p0 p1 p2 n1 n2 (1 : Int32) c0 c1 d0 d1 r_87 b89 b160) [(.int 1)]) _
                refine XS.goto X166.here hx rfl (pc0 := 186) (pc' := 190) rfl (hb hby at_186) (by decide) (by decide) ?_
                exact kt
              exact ⟨(1 : Int32), (by rw [own_same, if_pos ⟨hb176, Or.inl hb178, Or.inr hb183⟩]), fun t kt => pre184 t kt⟩
            · have pre185 : ∀ t, Steps p.tables e below (T166.setTop (mkF m 190 (la15 p0 p1 p2 n1 n2 (1 : Int32) c0 c1 d0 d1 r_87 b89 b160) [(.int 0)])) t → Steps p.tables e below (s₁.setTop (entryFrame m #[(.int p0), (.int p1), (.int p2)] maxLocals)) t := by
                intro t kt
                refine pre182 t ?_
                show GO p e below T166 (mkF m 182 (la15 p0 p1 p2 n1 n2 (1 : Int32) c0 c1 d0 d1 r_87 b89 b160) [(.int d1), (.int c1)]) _
                refine XS.icmpYes X166.here hx rfl (pc0 := 182) (pc' := 189) rfl (hb hby at_182) rfl (feq (hb183 : ¬ (c1 = d1))).2 (by decide) (by decide) ?_
                show GO p e below T166 (mkF m 189 (la15 p0 p1 p2 n1 n2 (1 : Int32) c0 c1 d0 d1 r_87 b89 b160) []) _
                refine XS.iconst X166.here hx rfl (hb hby at_189) ?_
                exact kt
              exact ⟨(0 : Int32), (by rw [own_same, if_neg (fun q => q.2.2.elim hb180 hb183)]), fun t kt => pre185 t kt⟩
        · have pre186 : ∀ t, Steps p.tables e below (T166.setTop (mkF m 170 (la15 p0 p1 p2 n1 n2 (1 : Int32) c0 c1 d0 d1 r_87 b89 b160) [(.int d0), (.int c0)])) t → Steps p.tables e below (s₁.setTop (entryFrame m #[(.int p0), (.int p1), (.int p2)] maxLocals)) t := by
            intro t kt
            refine pre177 t ?_
            show GO p e below T166 (mkF m 163 (la15 p0 p1 p2 n1 n2 (1 : Int32) c0 c1 d0 d1 r_87 b89 b160) [(.int 1), (.int n1)]) _
            refine XS.icmpNo X166.here hx rfl (hb hby at_163) rfl (flt (hb178 : ¬ (n1 < (1 : Int32)))).1 ?_
            show GO p e below T166 (mkF m 166 (la15 p0 p1 p2 n1 n2 (1 : Int32) c0 c1 d0 d1 r_87 b89 b160) []) _
            refine XS.iload X166.here hx rfl (hb hby at_166) rfl ?_
            show GO p e below T166 (mkF m 168 (la15 p0 p1 p2 n1 n2 (1 : Int32) c0 c1 d0 d1 r_87 b89 b160) [(.int c0)]) _
            refine XS.iload X166.here hx rfl (hb hby at_168) rfl ?_
            exact kt
          by_cases hb187 : c0 = d0
          · have pre188 : ∀ t, Steps p.tables e below (T166.setTop (mkF m 175 (la15 p0 p1 p2 n1 n2 (1 : Int32) c0 c1 d0 d1 r_87 b89 b160) [(.int 2), (.int n1)])) t → Steps p.tables e below (s₁.setTop (entryFrame m #[(.int p0), (.int p1), (.int p2)] maxLocals)) t := by
              intro t kt
              refine pre186 t ?_
              show GO p e below T166 (mkF m 170 (la15 p0 p1 p2 n1 n2 (1 : Int32) c0 c1 d0 d1 r_87 b89 b160) [(.int d0), (.int c0)]) _
              refine XS.icmpNo X166.here hx rfl (hb hby at_170) rfl (teq (hb187 : c0 = d0)).2 ?_
              show GO p e below T166 (mkF m 173 (la15 p0 p1 p2 n1 n2 (1 : Int32) c0 c1 d0 d1 r_87 b89 b160) []) _
              refine XS.iloadN X166.here hx rfl (hb hby at_173) rfl ?_
              show GO p e below T166 (mkF m 174 (la15 p0 p1 p2 n1 n2 (1 : Int32) c0 c1 d0 d1 r_87 b89 b160) [(.int n1)]) _
              refine XS.iconst X166.here hx rfl (hb hby at_174) ?_
              exact kt
            by_cases hb189 : n1 < (2 : Int32)
            · have pre190 : ∀ t, Steps p.tables e below (T166.setTop (mkF m 190 (la15 p0 p1 p2 n1 n2 (1 : Int32) c0 c1 d0 d1 r_87 b89 b160) [(.int 1)])) t → Steps p.tables e below (s₁.setTop (entryFrame m #[(.int p0), (.int p1), (.int p2)] maxLocals)) t := by
                intro t kt
                refine pre188 t ?_
                show GO p e below T166 (mkF m 175 (la15 p0 p1 p2 n1 n2 (1 : Int32) c0 c1 d0 d1 r_87 b89 b160) [(.int 2), (.int n1)]) _
                refine XS.icmpYes X166.here hx rfl (pc0 := 175) (pc' := 185) rfl (hb hby at_175) rfl (tlt (hb189 : n1 < (2 : Int32))).1 (by decide) (by decide) ?_
                show GO p e below T166 (mkF m 185 (la15 p0 p1 p2 n1 n2 (1 : Int32) c0 c1 d0 d1 r_87 b89 b160) []) _
                refine XS.iconst X166.here hx rfl (hb hby at_185) ?_
                show GO p e below T166 (mkF m 186 (la15 p0 p1 p2 n1 n2 (1 : Int32) c0 c1 d0 d1 r_87 b89 b160) [(.int 1)]) _
                refine XS.goto X166.here hx rfl (pc0 := 186) (pc' := 190) rfl (hb hby at_186) (by decide) (by decide) ?_
                exact kt
              exact ⟨(1 : Int32), (by rw [own_same, if_pos ⟨hb176, Or.inr hb187, Or.inl hb189⟩]), fun t kt => pre190 t kt⟩
            · have pre191 : ∀ t, Steps p.tables e below (T166.setTop (mkF m 182 (la15 p0 p1 p2 n1 n2 (1 : Int32) c0 c1 d0 d1 r_87 b89 b160) [(.int d1), (.int c1)])) t → Steps p.tables e below (s₁.setTop (entryFrame m #[(.int p0), (.int p1), (.int p2)] maxLocals)) t := by
                intro t kt
                refine pre188 t ?_
                show GO p e below T166 (mkF m 175 (la15 p0 p1 p2 n1 n2 (1 : Int32) c0 c1 d0 d1 r_87 b89 b160) [(.int 2), (.int n1)]) _
                refine XS.icmpNo X166.here hx rfl (hb hby at_175) rfl (flt (hb189 : ¬ (n1 < (2 : Int32)))).1 ?_
                show GO p e below T166 (mkF m 178 (la15 p0 p1 p2 n1 n2 (1 : Int32) c0 c1 d0 d1 r_87 b89 b160) []) _
                refine XS.iload X166.here hx rfl (hb hby at_178) rfl ?_
                show GO p e below T166 (mkF m 180 (la15 p0 p1 p2 n1 n2 (1 : Int32) c0 c1 d0 d1 r_87 b89 b160) [(.int c1)]) _
                refine XS.iload X166.here hx rfl (hb hby at_180) rfl ?_
                exact kt
              by_cases hb192 : c1 = d1
              · have pre193 : ∀ t, Steps p.tables e below (T166.setTop (mkF m 190 (la15 p0 p1 p2 n1 n2 (1 : Int32) c0 c1 d0 d1 r_87 b89 b160) [(.int 1)])) t → Steps p.tables e below (s₁.setTop (entryFrame m #[(.int p0), (.int p1), (.int p2)] maxLocals)) t := by
                  intro t kt
                  refine pre191 t ?_
                  show GO p e below T166 (mkF m 182 (la15 p0 p1 p2 n1 n2 (1 : Int32) c0 c1 d0 d1 r_87 b89 b160) [(.int d1), (.int c1)]) _
                  refine XS.icmpNo X166.here hx rfl (hb hby at_182) rfl (teq (hb192 : c1 = d1)).2 ?_
                  show GO p e below T166 (mkF m 185 (la15 p0 p1 p2 n1 n2 (1 : Int32) c0 c1 d0 d1 r_87 b89 b160) []) _
                  refine XS.iconst X166.here hx rfl (hb hby at_185) ?_
                  show GO p e below T166 (mkF m 186 (la15 p0 p1 p2 n1 n2 (1 : Int32) c0 c1 d0 d1 r_87 b89 b160) [(.int 1)]) _
                  refine XS.goto X166.here hx rfl (pc0 := 186) (pc' := 190) rfl (hb hby at_186) (by decide) (by decide) ?_
                  exact kt
                exact ⟨(1 : Int32), (by rw [own_same, if_pos ⟨hb176, Or.inr hb187, Or.inr hb192⟩]), fun t kt => pre193 t kt⟩
              · have pre194 : ∀ t, Steps p.tables e below (T166.setTop (mkF m 190 (la15 p0 p1 p2 n1 n2 (1 : Int32) c0 c1 d0 d1 r_87 b89 b160) [(.int 0)])) t → Steps p.tables e below (s₁.setTop (entryFrame m #[(.int p0), (.int p1), (.int p2)] maxLocals)) t := by
                  intro t kt
                  refine pre191 t ?_
                  show GO p e below T166 (mkF m 182 (la15 p0 p1 p2 n1 n2 (1 : Int32) c0 c1 d0 d1 r_87 b89 b160) [(.int d1), (.int c1)]) _
                  refine XS.icmpYes X166.here hx rfl (pc0 := 182) (pc' := 189) rfl (hb hby at_182) rfl (feq (hb192 : ¬ (c1 = d1))).2 (by decide) (by decide) ?_
                  show GO p e below T166 (mkF m 189 (la15 p0 p1 p2 n1 n2 (1 : Int32) c0 c1 d0 d1 r_87 b89 b160) []) _
                  refine XS.iconst X166.here hx rfl (hb hby at_189) ?_
                  exact kt
                exact ⟨(0 : Int32), (by rw [own_same, if_neg (fun q => q.2.2.elim hb189 hb192)]), fun t kt => pre194 t kt⟩
          · have pre195 : ∀ t, Steps p.tables e below (T166.setTop (mkF m 190 (la15 p0 p1 p2 n1 n2 (1 : Int32) c0 c1 d0 d1 r_87 b89 b160) [(.int 0)])) t → Steps p.tables e below (s₁.setTop (entryFrame m #[(.int p0), (.int p1), (.int p2)] maxLocals)) t := by
              intro t kt
              refine pre186 t ?_
              show GO p e below T166 (mkF m 170 (la15 p0 p1 p2 n1 n2 (1 : Int32) c0 c1 d0 d1 r_87 b89 b160) [(.int d0), (.int c0)]) _
              refine XS.icmpYes X166.here hx rfl (pc0 := 170) (pc' := 189) rfl (hb hby at_170) rfl (feq (hb187 : ¬ (c0 = d0))).2 (by decide) (by decide) ?_
              show GO p e below T166 (mkF m 189 (la15 p0 p1 p2 n1 n2 (1 : Int32) c0 c1 d0 d1 r_87 b89 b160) []) _
              refine XS.iconst X166.here hx rfl (hb hby at_189) ?_
              exact kt
            exact ⟨(0 : Int32), (by rw [own_same, if_neg (fun q => q.2.1.elim hb178 hb187)]), fun t kt => pre195 t kt⟩
      · have pre196 : ∀ t, Steps p.tables e below (T166.setTop (mkF m 190 (la15 p0 p1 p2 n1 n2 (1 : Int32) c0 c1 d0 d1 r_87 b89 b160) [(.int 0)])) t → Steps p.tables e below (s₁.setTop (entryFrame m #[(.int p0), (.int p1), (.int p2)] maxLocals)) t := by
          intro t kt
          refine pre175 t ?_
          show GO p e below T166 (mkF m 158 (la15 p0 p1 p2 n1 n2 (1 : Int32) c0 c1 d0 d1 r_87 b89 b160) [(.int n2), (.int n1)]) _
          refine XS.icmpYes X166.here hx rfl (pc0 := 158) (pc' := 189) rfl (hb hby at_158) rfl (feq (hb176 : ¬ (n1 = n2))).2 (by decide) (by decide) ?_
          show GO p e below T166 (mkF m 189 (la15 p0 p1 p2 n1 n2 (1 : Int32) c0 c1 d0 d1 r_87 b89 b160) []) _
          refine XS.iconst X166.here hx rfl (hb hby at_189) ?_
          exact kt
        exact ⟨(0 : Int32), (by rw [own_same, if_neg (fun q => hb176 q.1)]), fun t kt => pre196 t kt⟩
    -- pc 219: BooleanVariable.equals by rm_eqb
    have f198 : Old Z n0 h166 := ((f164.keep K163 all0).keep K166 (allS (by omega) all0))
    have f199 : Fld Z h166 b89 kS0 "name" "Ljava/lang/String;" (.ref r_87) := (((p92_1.ext E160).keep K163 nin0).keep K166 (ninS (neN (by omega)) nin0))
    have f200 : Exa Z h166 r_87 "java/lang/String" := (((((p87_0.ext E89).keep K92).ext E160).keep K163).keep K166)
    have f201 : Fld Z h166 r_87 "java/lang/String" "coder" "B" (.int 0) := (((((p87_1.ext E89).keep K92 (ninS (neN (by omega)) nin0)).ext E160).keep K163 nin0).keep K166 (ninS (neN (by omega)) nin0))
    have f202 : Fld Z h166 r_87 "java/lang/String" "value" "[B" (.ref t_87) := (((((p87_2.ext E89).keep K92 (ninS (neN (by omega)) nin0)).ext E160).keep K163 nin0).keep K166 (ninS (neN (by omega)) nin0))
    have f203 : Arv Z h166 t_87 k_87 .byte N_87 vs_87 (.int 0) := (f170.keep K166 (ninS (Ne.symm ne171) nin0))
    have f204 : Exa Z h166 r_163 "java/lang/String" := (p163_0.keep K166)
    have f205 : Fld Z h166 r_163 "java/lang/String" "coder" "B" (.int 0) := (p163_1.keep K166 (ninS (neN (by omega)) nin0))
    have f206 : Fld Z h166 r_163 "java/lang/String" "value" "[B" (.ref t_163) := (p163_2.keep K166 (ninS (neN (by omega)) nin0))
    have f207 : Arv Z h166 t_163 k_163 .byte N_163 vs_163 (.int 0) := (p163_3.keep K166 (ninS (Ne.symm ne169) nin0))
    have f208 : Exa Z h166 b89 kS0 := (((p92_0.ext E160).keep K163).keep K166)
    obtain ⟨cq197, kq197, q197a, q197b, q197c⟩ := isOf hZ163 e166 f208
    obtain ⟨_, _, ⟨T197, L197, k197, n197⟩, -, X197, ⟨Lc197, hQ197, l197, y197, z197⟩, st197⟩ := X166.virtualBack hx (y := (⟨kS0, "equals", "(Ljava/lang/Object;)Z"⟩ : MethodName)) (z := (⟨kS0, "equals", "(Ljava/lang/Object;)Z"⟩ : MethodName)) hown163 (mvT hZ163 (wd hw 35 rfl)) (mvT hZ163 (wd hw 36 rfl)) (notFace_of_selects (args := #[]) (mvT hZ163 (wd hw 38 rfl))) (mvT hZ163 (wd hw 38 rfl)) (mvT hZ163 (wd hw 37 rfl)) (by decide) (backOf (W := 0) (rm_eqb l Z a0 hw [] b89 b160 z0 r_87 t_87 k_87 N_87 vs_87 (own_cs n1 c0 c1) r_163 t_163 k_163 N_163 vs_163 (own_cs n1 c0 c1) h166 n0 (by omega) f198 p166_0 f199 p166_1 f200 f201 f202 f203 f204 f205 f206 f207 (by first | assumption | decide | omega | exact neN (by omega)) (by first | assumption | decide | omega | exact neN (by omega)) r87_1 r87_2 r87_3 r163_1 r163_2 r163_3) hZ163 (wd hw 39 rfl) (wd hw 28 rfl) (by decide) (by decide)) q197a q197c (g := (mkF m 219 (la17 p0 p1 p2 n1 n2 (1 : Int32) c0 c1 d0 d1 r_87 b89 b160 vv (1 : Int32)) [(.ref b160), (.ref b89)])) rfl (by rw [hml]; rfl) (Steps.refl _) (argsL := [(.ref b160)]) (rest := []) (lenOf pd_2 rfl) rfl (by show 2 * 0 + _ ≤ _; exact Nat.le_of_eq rfl) (hb hby at_219) (fun _ _ => ⟨rfl, e166, (by decide : 14 + 0 ≤ _), (by decide : 26 + 0 ≤ _)⟩)
    dsimp only [Pt.U, Pt.locs, Pt.cells, Pt.slots] at X197 l197 y197 z197 st197 hQ197
    subst l197 y197 z197
    obtain ⟨rfl, N197q, e197⟩ := hQ197
    have N197 := Fr.app N166 N197q
    obtain ⟨fs, hr, hrun, hended, hE⟩ := X197.leaveW hS163 (by rw [e197]; omega) (v := some (.int 1)) (fun h => by rw [Bd.returns] at h; cases h)
    have CE := C172.trans (CHv.at X197 hZ163 (own_EW hw) C172.1)
    refine ⟨_, _, pre174 _ ?_, hrun, hended, _, _, rfl, ?_, ?_, ⟨hE.1, hE.2.1, hE.2.2.1, hE.2.2.2.mono (by decide) (by decide)⟩⟩
    · show GO p e below T166 (mkF m 190 (la15 p0 p1 p2 n1 n2 (1 : Int32) c0 c1 d0 d1 r_87 b89 b160) [(.int vv)]) _
      refine XS.istore X166.here hx rfl (hb hby at_190) rfl (l' := (la16 p0 p1 p2 n1 n2 (1 : Int32) c0 c1 d0 d1 r_87 b89 b160 vv)) rfl ?_
      show GO p e below T166 (mkF m 192 (la16 p0 p1 p2 n1 n2 (1 : Int32) c0 c1 d0 d1 r_87 b89 b160 vv) []) _
      refine XS.iload X166.here hx rfl (hb hby at_192) rfl ?_
      show GO p e below T166 (mkF m 194 (la16 p0 p1 p2 n1 n2 (1 : Int32) c0 c1 d0 d1 r_87 b89 b160 vv) [(.int 1)]) _
      refine XS.ifYes X166.here hx rfl (pc0 := 194) (pc' := 202) rfl (hb hby at_194) rfl ((if0 _ _).trans (feq ((by decide) : ¬ ((1 : Int32) = (0 : Int32)))).2) (by decide) (by decide) ?_
      show GO p e below T166 (mkF m 202 (la16 p0 p1 p2 n1 n2 (1 : Int32) c0 c1 d0 d1 r_87 b89 b160 vv) []) _
      refine XS.iload X166.here hx rfl (hb hby at_202) rfl ?_
      show GO p e below T166 (mkF m 204 (la16 p0 p1 p2 n1 n2 (1 : Int32) c0 c1 d0 d1 r_87 b89 b160 vv) [(.int 1)]) _
      refine XS.iconst X166.here hx rfl (hb hby at_204) ?_
      show GO p e below T166 (mkF m 205 (la16 p0 p1 p2 n1 n2 (1 : Int32) c0 c1 d0 d1 r_87 b89 b160 vv) [(.int 1), (.int 1)]) _
      refine XS.icmpNo X166.here hx rfl (hb hby at_205) rfl (teq (rfl : (1 : Int32) = (1 : Int32))).2 ?_
      show GO p e below T166 (mkF m 208 (la16 p0 p1 p2 n1 n2 (1 : Int32) c0 c1 d0 d1 r_87 b89 b160 vv) []) _
      refine XS.iconst X166.here hx rfl (hb hby at_208) ?_
      show GO p e below T166 (mkF m 209 (la16 p0 p1 p2 n1 n2 (1 : Int32) c0 c1 d0 d1 r_87 b89 b160 vv) [(.int 1)]) _
      refine XS.goto X166.here hx rfl (pc0 := 209) (pc' := 213) rfl (hb hby at_209) (by decide) (by decide) ?_
      show GO p e below T166 (mkF m 213 (la16 p0 p1 p2 n1 n2 (1 : Int32) c0 c1 d0 d1 r_87 b89 b160 vv) [(.int 1)]) _
      refine XS.istore X166.here hx rfl (hb hby at_213) rfl (l' := (la17 p0 p1 p2 n1 n2 (1 : Int32) c0 c1 d0 d1 r_87 b89 b160 vv (1 : Int32))) rfl ?_
      show GO p e below T166 (mkF m 215 (la17 p0 p1 p2 n1 n2 (1 : Int32) c0 c1 d0 d1 r_87 b89 b160 vv (1 : Int32)) []) _
      refine XS.aload X166.here hx rfl (hb hby at_215) rfl rfl ?_
      show GO p e below T166 (mkF m 217 (la17 p0 p1 p2 n1 n2 (1 : Int32) c0 c1 d0 d1 r_87 b89 b160 vv (1 : Int32)) [(.ref b89)]) _
      refine XS.aload X166.here hx rfl (hb hby at_217) rfl rfl ?_
      show GO p e below T166 (mkF m 219 (la17 p0 p1 p2 n1 n2 (1 : Int32) c0 c1 d0 d1 r_87 b89 b160 vv (1 : Int32)) [(.ref b160), (.ref b89)]) _
      refine st197.trans ?_
      show GO p e below T197 (mkF m 222 (la17 p0 p1 p2 n1 n2 (1 : Int32) c0 c1 d0 d1 r_87 b89 b160 vv (1 : Int32)) [(.int (own_eqs (own_cs n1 c0 c1) (own_cs n1 c0 c1)))]) _
      refine XS.iload X197.here hx rfl (hb hby at_222) rfl ?_
      show GO p e below T197 (mkF m 224 (la17 p0 p1 p2 n1 n2 (1 : Int32) c0 c1 d0 d1 r_87 b89 b160 vv (1 : Int32)) [(.int 1), (.int (own_eqs (own_cs n1 c0 c1) (own_cs n1 c0 c1)))]) _
      refine XS.icmpNo X197.here hx rfl (hb hby at_224) rfl (teq ((by simp [own_eqs]) : (own_eqs (own_cs n1 c0 c1) (own_cs n1 c0 c1)) = (1 : Int32))).2 ?_
      show GO p e below T197 (mkF m 227 (la17 p0 p1 p2 n1 n2 (1 : Int32) c0 c1 d0 d1 r_87 b89 b160 vv (1 : Int32)) []) _
      refine XS.iconst X197.here hx rfl (hb hby at_227) ?_
      show GO p e below T197 (mkF m 228 (la17 p0 p1 p2 n1 n2 (1 : Int32) c0 c1 d0 d1 r_87 b89 b160 vv (1 : Int32)) [(.int 1)]) _
      refine XS.goto X197.here hx rfl (pc0 := 228) (pc' := 232) rfl (hb hby at_228) (by decide) (by decide) ?_
      show GO p e below T197 (mkF m 232 (la17 p0 p1 p2 n1 n2 (1 : Int32) c0 c1 d0 d1 r_87 b89 b160 vv (1 : Int32)) [(.int 1)]) _
      exact retN X197 hx (t := .boolean) Bd.returns (by simp) (hb hby at_232) hr
    · show Qrm0 Z p0 p1 p2 z0 h0 n0 _ T197.heap _
      rw [e197]
      exact ⟨rfl, N197⟩
    · show CHr Z EL1 s.vm s.heap T197.vm T197.heap
      rw [hh, e197]
      exact CE
  · have pre209 : ∀ t, Steps p.tables e below (T92.setTop (mkF m 155 (la18 p0 p1 p2 n1 n2 (2 : Int32) c0 c1 d0 d1 r_87 b89) [])) t → Steps p.tables e below (s₁.setTop (entryFrame m #[(.int p0), (.int p1), (.int p2)] maxLocals)) t := by
      intro t kt
      refine pre96 t ?_
      show GO p e below T92 (mkF m 83 (la14 p0 p1 p2 n1 n2 (2 : Int32) c0 c1 d0 d1 r_87 b89) [(.int 2)]) _
      refine XS.ifYes X92.here hx rfl (pc0 := 83) (pc' := 107) rfl (hb hby at_83) rfl ((if0 _ _).trans (feq ((by decide) : ¬ ((2 : Int32) = (0 : Int32)))).2) (by decide) (by decide) ?_
      show GO p e below T92 (mkF m 107 (la14 p0 p1 p2 n1 n2 (2 : Int32) c0 c1 d0 d1 r_87 b89) []) _
      refine XS.iload X92.here hx rfl (hb hby at_107) rfl ?_
      show GO p e below T92 (mkF m 109 (la14 p0 p1 p2 n1 n2 (2 : Int32) c0 c1 d0 d1 r_87 b89) [(.int 2)]) _
      refine XS.iconst X92.here hx rfl (hb hby at_109) ?_
      show GO p e below T92 (mkF m 110 (la14 p0 p1 p2 n1 n2 (2 : Int32) c0 c1 d0 d1 r_87 b89) [(.int 1), (.int 2)]) _
      refine XS.icmpYes X92.here hx rfl (pc0 := 110) (pc' := 133) rfl (hb hby at_110) rfl (feq ((by decide) : ¬ ((2 : Int32) = (1 : Int32)))).2 (by decide) (by decide) ?_
      show GO p e below T92 (mkF m 133 (la14 p0 p1 p2 n1 n2 (2 : Int32) c0 c1 d0 d1 r_87 b89) []) _
      refine XS.iload X92.here hx rfl (hb hby at_133) rfl ?_
      show GO p e below T92 (mkF m 135 (la14 p0 p1 p2 n1 n2 (2 : Int32) c0 c1 d0 d1 r_87 b89) [(.int 2)]) _
      refine XS.iconst X92.here hx rfl (hb hby at_135) ?_
      show GO p e below T92 (mkF m 136 (la14 p0 p1 p2 n1 n2 (2 : Int32) c0 c1 d0 d1 r_87 b89) [(.int 2), (.int 2)]) _
      refine XS.icmpNo X92.here hx rfl (hb hby at_136) rfl (teq (rfl : (2 : Int32) = (2 : Int32))).2 ?_
      show GO p e below T92 (mkF m 139 (la14 p0 p1 p2 n1 n2 (2 : Int32) c0 c1 d0 d1 r_87 b89) []) _
      refine XS.aconstNull X92.here hx rfl (hb hby at_139) ?_
      show GO p e below T92 (mkF m 140 (la14 p0 p1 p2 n1 n2 (2 : Int32) c0 c1 d0 d1 r_87 b89) [.null]) _
      refine XS.astore X92.here hx rfl (hb hby at_140) rfl rfl (l' := (la18 p0 p1 p2 n1 n2 (2 : Int32) c0 c1 d0 d1 r_87 b89)) rfl ?_
      show GO p e below T92 (mkF m 142 (la18 p0 p1 p2 n1 n2 (2 : Int32) c0 c1 d0 d1 r_87 b89) []) _
      refine XS.goto X92.here hx rfl (pc0 := 142) (pc' := 155) rfl (hb hby at_142) (by decide) (by decide) ?_
      exact kt
    obtain ⟨vv, hvv, pre210⟩ : ∃ vv : Int32, (vv = own_same n1 n2 c0 c1 d0 d1) ∧ ∀ t, Steps p.tables e below (T92.setTop (mkF m 190 (la18 p0 p1 p2 n1 n2 (2 : Int32) c0 c1 d0 d1 r_87 b89) [(.int vv)])) t → Steps p.tables e below (s₁.setTop (entryFrame m #[(.int p0), (.int p1), (.int p2)] maxLocals)) t := by
      have pre211 : ∀ t, Steps p.tables e below (T92.setTop (mkF m 158 (la18 p0 p1 p2 n1 n2 (2 : Int32) c0 c1 d0 d1 r_87 b89) [(.int n2), (.int n1)])) t → Steps p.tables e below (s₁.setTop (entryFrame m #[(.int p0), (.int p1), (.int p2)] maxLocals)) t := by
        intro t kt
        refine pre209 t ?_
        show GO p e below T92 (mkF m 155 (la18 p0 p1 p2 n1 n2 (2 : Int32) c0 c1 d0 d1 r_87 b89) []) _
        refine XS.iloadN X92.here hx rfl (hb hby at_155) rfl ?_
        show GO p e below T92 (mkF m 156 (la18 p0 p1 p2 n1 n2 (2 : Int32) c0 c1 d0 d1 r_87 b89) [(.int n1)]) _
        refine XS.iload X92.here hx rfl (hb hby at_156) rfl ?_
        exact kt
      by_cases hb212 : n1 = n2
      · have pre213 : ∀ t, Steps p.tables e below (T92.setTop (mkF m 163 (la18 p0 p1 p2 n1 n2 (2 : Int32) c0 c1 d0 d1 r_87 b89) [(.int 1), (.int n1)])) t → Steps p.tables e below (s₁.setTop (entryFrame m #[(.int p0), (.int p1), (.int p2)] maxLocals)) t := by
          intro t kt
          refine pre211 t ?_
          show GO p e below T92 (mkF m 158 (la18 p0 p1 p2 n1 n2 (2 : Int32) c0 c1 d0 d1 r_87 b89) [(.int n2), (.int n1)]) _
          refine XS.icmpNo X92.here hx rfl (hb hby at_158) rfl (teq (hb212 : n1 = n2)).2 ?_
          show GO p e below T92 (mkF m 161 (la18 p0 p1 p2 n1 n2 (2 : Int32) c0 c1 d0 d1 r_87 b89) []) _
          refine XS.iloadN X92.here hx rfl (hb hby at_161) rfl ?_
          show GO p e below T92 (mkF m 162 (la18 p0 p1 p2 n1 n2 (2 : Int32) c0 c1 d0 d1 r_87 b89) [(.int n1)]) _
          refine XS.iconst X92.here hx rfl (hb hby at_162) ?_
          exact kt
        by_cases hb214 : n1 < (1 : Int32)
        · have pre215 : ∀ t, Steps p.tables e below (T92.setTop (mkF m 175 (la18 p0 p1 p2 n1 n2 (2 : Int32) c0 c1 d0 d1 r_87 b89) [(.int 2), (.int n1)])) t → Steps p.tables e below (s₁.setTop (entryFrame m #[(.int p0), (.int p1), (.int p2)] maxLocals)) t := by
            intro t kt
            refine pre213 t ?_
            show GO p e below T92 (mkF m 163 (la18 p0 p1 p2 n1 n2 (2 : Int32) c0 c1 d0 d1 r_87 b89) [(.int 1), (.int n1)]) _
            refine XS.icmpYes X92.here hx rfl (pc0 := 163) (pc' := 173) rfl (hb hby at_163) rfl (tlt (hb214 : n1 < (1 : Int32))).1 (by decide) (by decide) ?_
            show GO p e below T92 (mkF m 173 (la18 p0 p1 p2 n1 n2 (2 : Int32) c0 c1 d0 d1 r_87 b89) []) _
            refine XS.iloadN X92.here hx rfl (hb hby at_173) rfl ?_
            show GO p e below T92 (mkF m 174 (la18 p0 p1 p2 n1 n2 (2 : Int32) c0 c1 d0 d1 r_87 b89) [(.int n1)]) _
            refine XS.iconst X92.here hx rfl (hb hby at_174) ?_
            exact kt
          by_cases hb216 : n1 < (2 : Int32)
          · have pre217 : ∀ t, Steps p.tables e below (T92.setTop (mkF m 190 (la18 p0 p1 p2 n1 n2 (2 : Int32) c0 c1 d0 d1 r_87 b89) [(.int 1)])) t → Steps p.tables e below (s₁.setTop (entryFrame m #[(.int p0), (.int p1), (.int p2)] maxLocals)) t := by
              intro t kt
              refine pre215 t ?_
              show GO p e below T92 (mkF m 175 (la18 p0 p1 p2 n1 n2 (2 : Int32) c0 c1 d0 d1 r_87 b89) [(.int 2), (.int n1)]) _
              refine XS.icmpYes X92.here hx rfl (pc0 := 175) (pc' := 185) rfl (hb hby at_175) rfl (tlt (hb216 : n1 < (2 : Int32))).1 (by decide) (by decide) ?_
              show GO p e below T92 (mkF m 185 (la18 p0 p1 p2 n1 n2 (2 : Int32) c0 c1 d0 d1 r_87 b89) []) _
              refine XS.iconst X92.here hx rfl (hb hby at_185) ?_
              show GO p e below T92 (mkF m 186 (la18 p0 p1 p2 n1 n2 (2 : Int32) c0 c1 d0 d1 r_87 b89) [(.int 1)]) _
              refine XS.goto X92.here hx rfl (pc0 := 186) (pc' := 190) rfl (hb hby at_186) (by decide) (by decide) ?_
              exact kt
            exact ⟨(1 : Int32), (by rw [own_same, if_pos ⟨hb212, Or.inl hb214, Or.inl hb216⟩]), fun t kt => pre217 t kt⟩
          · have pre218 : ∀ t, Steps p.tables e below (T92.setTop (mkF m 182 (la18 p0 p1 p2 n1 n2 (2 : Int32) c0 c1 d0 d1 r_87 b89) [(.int d1), (.int c1)])) t → Steps p.tables e below (s₁.setTop (entryFrame m #[(.int p0), (.int p1), (.int p2)] maxLocals)) t := by
              intro t kt
              refine pre215 t ?_
              show GO p e below T92 (mkF m 175 (la18 p0 p1 p2 n1 n2 (2 : Int32) c0 c1 d0 d1 r_87 b89) [(.int 2), (.int n1)]) _
              refine XS.icmpNo X92.here hx rfl (hb hby at_175) rfl (flt (hb216 : ¬ (n1 < (2 : Int32)))).1 ?_
              show GO p e below T92 (mkF m 178 (la18 p0 p1 p2 n1 n2 (2 : Int32) c0 c1 d0 d1 r_87 b89) []) _
              refine XS.iload X92.here hx rfl (hb hby at_178) rfl ?_
              show GO p e below T92 (mkF m 180 (la18 p0 p1 p2 n1 n2 (2 : Int32) c0 c1 d0 d1 r_87 b89) [(.int c1)]) _
              refine XS.iload X92.here hx rfl (hb hby at_180) rfl ?_
              exact kt
            by_cases hb219 : c1 = d1
            · have pre220 : ∀ t, Steps p.tables e below (T92.setTop (mkF m 190 (la18 p0 p1 p2 n1 n2 (2 : Int32) c0 c1 d0 d1 r_87 b89) [(.int 1)])) t → Steps p.tables e below (s₁.setTop (entryFrame m #[(.int p0), (.int p1), (.int p2)] maxLocals)) t := by
                intro t kt
                refine pre218 t ?_
                show GO p e below T92 (mkF m 182 (la18 p0 p1 p2 n1 n2 (2 : Int32) c0 c1 d0 d1 r_87 b89) [(.int d1), (.int c1)]) _
                refine XS.icmpNo X92.here hx rfl (hb hby at_182) rfl (teq (hb219 : c1 = d1)).2 ?_
                show GO p e below T92 (mkF m 185 (la18 p0 p1 p2 n1 n2 (2 : Int32) c0 c1 d0 d1 r_87 b89) []) _
                refine XS.iconst X92.here hx rfl (hb hby at_185) ?_
                show GO p e below T92 (mkF m 186 (la18 p0 p1 p2 n1 n2 (2 : Int32) c0 c1 d0 d1 r_87 b89) [(.int 1)]) _
                refine XS.goto X92.here hx rfl (pc0 := 186) (pc' := 190) rfl (hb hby at_186) (by decide) (by decide) ?_
                exact kt
              exact ⟨(1 : Int32), (by rw [own_same, if_pos ⟨hb212, Or.inl hb214, Or.inr hb219⟩]), fun t kt => pre220 t kt⟩
            · have pre221 : ∀ t, Steps p.tables e below (T92.setTop (mkF m 190 (la18 p0 p1 p2 n1 n2 (2 : Int32) c0 c1 d0 d1 r_87 b89) [(.int 0)])) t → Steps p.tables e below (s₁.setTop (entryFrame m #[(.int p0), (.int p1), (.int p2)] maxLocals)) t := by
                intro t kt
                refine pre218 t ?_
                show GO p e below T92 (mkF m 182 (la18 p0 p1 p2 n1 n2 (2 : Int32) c0 c1 d0 d1 r_87 b89) [(.int d1), (.int c1)]) _
                refine XS.icmpYes X92.here hx rfl (pc0 := 182) (pc' := 189) rfl (hb hby at_182) rfl (feq (hb219 : ¬ (c1 = d1))).2 (by decide) (by decide) ?_
                show GO p e below T92 (mkF m 189 (la18 p0 p1 p2 n1 n2 (2 : Int32) c0 c1 d0 d1 r_87 b89) []) _
                refine XS.iconst X92.here hx rfl (hb hby at_189) ?_
                exact kt
              exact ⟨(0 : Int32), (by rw [own_same, if_neg (fun q => q.2.2.elim hb216 hb219)]), fun t kt => pre221 t kt⟩
        · have pre222 : ∀ t, Steps p.tables e below (T92.setTop (mkF m 170 (la18 p0 p1 p2 n1 n2 (2 : Int32) c0 c1 d0 d1 r_87 b89) [(.int d0), (.int c0)])) t → Steps p.tables e below (s₁.setTop (entryFrame m #[(.int p0), (.int p1), (.int p2)] maxLocals)) t := by
            intro t kt
            refine pre213 t ?_
            show GO p e below T92 (mkF m 163 (la18 p0 p1 p2 n1 n2 (2 : Int32) c0 c1 d0 d1 r_87 b89) [(.int 1), (.int n1)]) _
            refine XS.icmpNo X92.here hx rfl (hb hby at_163) rfl (flt (hb214 : ¬ (n1 < (1 : Int32)))).1 ?_
            show GO p e below T92 (mkF m 166 (la18 p0 p1 p2 n1 n2 (2 : Int32) c0 c1 d0 d1 r_87 b89) []) _
            refine XS.iload X92.here hx rfl (hb hby at_166) rfl ?_
            show GO p e below T92 (mkF m 168 (la18 p0 p1 p2 n1 n2 (2 : Int32) c0 c1 d0 d1 r_87 b89) [(.int c0)]) _
            refine XS.iload X92.here hx rfl (hb hby at_168) rfl ?_
            exact kt
          by_cases hb223 : c0 = d0
          · have pre224 : ∀ t, Steps p.tables e below (T92.setTop (mkF m 175 (la18 p0 p1 p2 n1 n2 (2 : Int32) c0 c1 d0 d1 r_87 b89) [(.int 2), (.int n1)])) t → Steps p.tables e below (s₁.setTop (entryFrame m #[(.int p0), (.int p1), (.int p2)] maxLocals)) t := by
              intro t kt
              refine pre222 t ?_
              show GO p e below T92 (mkF m 170 (la18 p0 p1 p2 n1 n2 (2 : Int32) c0 c1 d0 d1 r_87 b89) [(.int d0), (.int c0)]) _
              refine XS.icmpNo X92.here hx rfl (hb hby at_170) rfl (teq (hb223 : c0 = d0)).2 ?_
              show GO p e below T92 (mkF m 173 (la18 p0 p1 p2 n1 n2 (2 : Int32) c0 c1 d0 d1 r_87 b89) []) _
              refine XS.iloadN X92.here hx rfl (hb hby at_173) rfl ?_
              show GO p e below T92 (mkF m 174 (la18 p0 p1 p2 n1 n2 (2 : Int32) c0 c1 d0 d1 r_87 b89) [(.int n1)]) _
              refine XS.iconst X92.here hx rfl (hb hby at_174) ?_
              exact kt
            by_cases hb225 : n1 < (2 : Int32)
            · have pre226 : ∀ t, Steps p.tables e below (T92.setTop (mkF m 190 (la18 p0 p1 p2 n1 n2 (2 : Int32) c0 c1 d0 d1 r_87 b89) [(.int 1)])) t → Steps p.tables e below (s₁.setTop (entryFrame m #[(.int p0), (.int p1), (.int p2)] maxLocals)) t := by
                intro t kt
                refine pre224 t ?_
                show GO p e below T92 (mkF m 175 (la18 p0 p1 p2 n1 n2 (2 : Int32) c0 c1 d0 d1 r_87 b89) [(.int 2), (.int n1)]) _
                refine XS.icmpYes X92.here hx rfl (pc0 := 175) (pc' := 185) rfl (hb hby at_175) rfl (tlt (hb225 : n1 < (2 : Int32))).1 (by decide) (by decide) ?_
                show GO p e below T92 (mkF m 185 (la18 p0 p1 p2 n1 n2 (2 : Int32) c0 c1 d0 d1 r_87 b89) []) _
                refine XS.iconst X92.here hx rfl (hb hby at_185) ?_
                show GO p e below T92 (mkF m 186 (la18 p0 p1 p2 n1 n2 (2 : Int32) c0 c1 d0 d1 r_87 b89) [(.int 1)]) _
                refine XS.goto X92.here hx rfl (pc0 := 186) (pc' := 190) rfl (hb hby at_186) (by decide) (by decide) ?_
                exact kt
              exact ⟨(1 : Int32), (by rw [own_same, if_pos ⟨hb212, Or.inr hb223, Or.inl hb225⟩]), fun t kt => pre226 t kt⟩
            · have pre227 : ∀ t, Steps p.tables e below (T92.setTop (mkF m 182 (la18 p0 p1 p2 n1 n2 (2 : Int32) c0 c1 d0 d1 r_87 b89) [(.int d1), (.int c1)])) t → Steps p.tables e below (s₁.setTop (entryFrame m #[(.int p0), (.int p1), (.int p2)] maxLocals)) t := by
                intro t kt
                refine pre224 t ?_
                show GO p e below T92 (mkF m 175 (la18 p0 p1 p2 n1 n2 (2 : Int32) c0 c1 d0 d1 r_87 b89) [(.int 2), (.int n1)]) _
                refine XS.icmpNo X92.here hx rfl (hb hby at_175) rfl (flt (hb225 : ¬ (n1 < (2 : Int32)))).1 ?_
                show GO p e below T92 (mkF m 178 (la18 p0 p1 p2 n1 n2 (2 : Int32) c0 c1 d0 d1 r_87 b89) []) _
                refine XS.iload X92.here hx rfl (hb hby at_178) rfl ?_
                show GO p e below T92 (mkF m 180 (la18 p0 p1 p2 n1 n2 (2 : Int32) c0 c1 d0 d1 r_87 b89) [(.int c1)]) _
                refine XS.iload X92.here hx rfl (hb hby at_180) rfl ?_
                exact kt
              by_cases hb228 : c1 = d1
              · have pre229 : ∀ t, Steps p.tables e below (T92.setTop (mkF m 190 (la18 p0 p1 p2 n1 n2 (2 : Int32) c0 c1 d0 d1 r_87 b89) [(.int 1)])) t → Steps p.tables e below (s₁.setTop (entryFrame m #[(.int p0), (.int p1), (.int p2)] maxLocals)) t := by
                  intro t kt
                  refine pre227 t ?_
                  show GO p e below T92 (mkF m 182 (la18 p0 p1 p2 n1 n2 (2 : Int32) c0 c1 d0 d1 r_87 b89) [(.int d1), (.int c1)]) _
                  refine XS.icmpNo X92.here hx rfl (hb hby at_182) rfl (teq (hb228 : c1 = d1)).2 ?_
                  show GO p e below T92 (mkF m 185 (la18 p0 p1 p2 n1 n2 (2 : Int32) c0 c1 d0 d1 r_87 b89) []) _
                  refine XS.iconst X92.here hx rfl (hb hby at_185) ?_
                  show GO p e below T92 (mkF m 186 (la18 p0 p1 p2 n1 n2 (2 : Int32) c0 c1 d0 d1 r_87 b89) [(.int 1)]) _
                  refine XS.goto X92.here hx rfl (pc0 := 186) (pc' := 190) rfl (hb hby at_186) (by decide) (by decide) ?_
                  exact kt
                exact ⟨(1 : Int32), (by rw [own_same, if_pos ⟨hb212, Or.inr hb223, Or.inr hb228⟩]), fun t kt => pre229 t kt⟩
              · have pre230 : ∀ t, Steps p.tables e below (T92.setTop (mkF m 190 (la18 p0 p1 p2 n1 n2 (2 : Int32) c0 c1 d0 d1 r_87 b89) [(.int 0)])) t → Steps p.tables e below (s₁.setTop (entryFrame m #[(.int p0), (.int p1), (.int p2)] maxLocals)) t := by
                  intro t kt
                  refine pre227 t ?_
                  show GO p e below T92 (mkF m 182 (la18 p0 p1 p2 n1 n2 (2 : Int32) c0 c1 d0 d1 r_87 b89) [(.int d1), (.int c1)]) _
                  refine XS.icmpYes X92.here hx rfl (pc0 := 182) (pc' := 189) rfl (hb hby at_182) rfl (feq (hb228 : ¬ (c1 = d1))).2 (by decide) (by decide) ?_
                  show GO p e below T92 (mkF m 189 (la18 p0 p1 p2 n1 n2 (2 : Int32) c0 c1 d0 d1 r_87 b89) []) _
                  refine XS.iconst X92.here hx rfl (hb hby at_189) ?_
                  exact kt
                exact ⟨(0 : Int32), (by rw [own_same, if_neg (fun q => q.2.2.elim hb225 hb228)]), fun t kt => pre230 t kt⟩
          · have pre231 : ∀ t, Steps p.tables e below (T92.setTop (mkF m 190 (la18 p0 p1 p2 n1 n2 (2 : Int32) c0 c1 d0 d1 r_87 b89) [(.int 0)])) t → Steps p.tables e below (s₁.setTop (entryFrame m #[(.int p0), (.int p1), (.int p2)] maxLocals)) t := by
              intro t kt
              refine pre222 t ?_
              show GO p e below T92 (mkF m 170 (la18 p0 p1 p2 n1 n2 (2 : Int32) c0 c1 d0 d1 r_87 b89) [(.int d0), (.int c0)]) _
              refine XS.icmpYes X92.here hx rfl (pc0 := 170) (pc' := 189) rfl (hb hby at_170) rfl (feq (hb223 : ¬ (c0 = d0))).2 (by decide) (by decide) ?_
              show GO p e below T92 (mkF m 189 (la18 p0 p1 p2 n1 n2 (2 : Int32) c0 c1 d0 d1 r_87 b89) []) _
              refine XS.iconst X92.here hx rfl (hb hby at_189) ?_
              exact kt
            exact ⟨(0 : Int32), (by rw [own_same, if_neg (fun q => q.2.1.elim hb214 hb223)]), fun t kt => pre231 t kt⟩
      · have pre232 : ∀ t, Steps p.tables e below (T92.setTop (mkF m 190 (la18 p0 p1 p2 n1 n2 (2 : Int32) c0 c1 d0 d1 r_87 b89) [(.int 0)])) t → Steps p.tables e below (s₁.setTop (entryFrame m #[(.int p0), (.int p1), (.int p2)] maxLocals)) t := by
          intro t kt
          refine pre211 t ?_
          show GO p e below T92 (mkF m 158 (la18 p0 p1 p2 n1 n2 (2 : Int32) c0 c1 d0 d1 r_87 b89) [(.int n2), (.int n1)]) _
          refine XS.icmpYes X92.here hx rfl (pc0 := 158) (pc' := 189) rfl (hb hby at_158) rfl (feq (hb212 : ¬ (n1 = n2))).2 (by decide) (by decide) ?_
          show GO p e below T92 (mkF m 189 (la18 p0 p1 p2 n1 n2 (2 : Int32) c0 c1 d0 d1 r_87 b89) []) _
          refine XS.iconst X92.here hx rfl (hb hby at_189) ?_
          exact kt
        exact ⟨(0 : Int32), (by rw [own_same, if_neg (fun q => hb212 q.1)]), fun t kt => pre232 t kt⟩
    -- pc 219: BooleanVariable.equals by rm_eqn
    obtain ⟨cq233, kq233, q233a, q233b, q233c⟩ := isOf hZ87 e92 p92_0
    obtain ⟨_, _, ⟨T233, L233, k233, n233⟩, -, X233, ⟨Lc233, hQ233, l233, y233, z233⟩, st233⟩ := X92.virtualBack hx (y := (⟨kS0, "equals", "(Ljava/lang/Object;)Z"⟩ : MethodName)) (z := (⟨kS0, "equals", "(Ljava/lang/Object;)Z"⟩ : MethodName)) hown87 (mvT hZ87 (wd hw 35 rfl)) (mvT hZ87 (wd hw 36 rfl)) (notFace_of_selects (args := #[]) (mvT hZ87 (wd hw 38 rfl))) (mvT hZ87 (wd hw 38 rfl)) (mvT hZ87 (wd hw 37 rfl)) (by decide) (backOf (W := 0) (rm_eqn l Z a0 hw [] b89 h92 n0 (by omega)) hZ87 (wd hw 39 rfl) (wd hw 28 rfl) (by decide) (by decide)) q233a q233c (g := (mkF m 219 (la20 p0 p1 p2 n1 n2 (2 : Int32) c0 c1 d0 d1 r_87 b89 vv (0 : Int32)) [.null, (.ref b89)])) rfl (by rw [hml]; rfl) (Steps.refl _) (argsL := [.null]) (rest := []) (lenOf pd_2 rfl) rfl (by show 2 * 0 + _ ≤ _; exact Nat.le_of_eq rfl) (hb hby at_219) (fun _ _ => ⟨rfl, e92, (by decide : 7 + 0 ≤ _), (by decide : 13 + 0 ≤ _)⟩)
    dsimp only [Pt.U, Pt.locs, Pt.cells, Pt.slots] at X233 l233 y233 z233 st233 hQ233
    subst l233 y233 z233
    obtain ⟨rfl, N233q, e233⟩ := hQ233
    have N233 := Fr.app N92 N233q
    obtain ⟨fs, hr, hrun, hended, hE⟩ := X233.leaveW hS87 (by rw [e233]; omega) (v := some (.int 1)) (fun h => by rw [Bd.returns] at h; cases h)
    have CE := C95.trans (CHv.at X233 hZ87 (own_EW hw) C95.1)
    refine ⟨_, _, pre210 _ ?_, hrun, hended, _, _, rfl, ?_, ?_, ⟨hE.1, hE.2.1, hE.2.2.1, hE.2.2.2.mono (by decide) (by decide)⟩⟩
    · show GO p e below T92 (mkF m 190 (la18 p0 p1 p2 n1 n2 (2 : Int32) c0 c1 d0 d1 r_87 b89) [(.int vv)]) _
      refine XS.istore X92.here hx rfl (hb hby at_190) rfl (l' := (la19 p0 p1 p2 n1 n2 (2 : Int32) c0 c1 d0 d1 r_87 b89 vv)) rfl ?_
      show GO p e below T92 (mkF m 192 (la19 p0 p1 p2 n1 n2 (2 : Int32) c0 c1 d0 d1 r_87 b89 vv) []) _
      refine XS.iload X92.here hx rfl (hb hby at_192) rfl ?_
      show GO p e below T92 (mkF m 194 (la19 p0 p1 p2 n1 n2 (2 : Int32) c0 c1 d0 d1 r_87 b89 vv) [(.int 2)]) _
      refine XS.ifYes X92.here hx rfl (pc0 := 194) (pc' := 202) rfl (hb hby at_194) rfl ((if0 _ _).trans (feq ((by decide) : ¬ ((2 : Int32) = (0 : Int32)))).2) (by decide) (by decide) ?_
      show GO p e below T92 (mkF m 202 (la19 p0 p1 p2 n1 n2 (2 : Int32) c0 c1 d0 d1 r_87 b89 vv) []) _
      refine XS.iload X92.here hx rfl (hb hby at_202) rfl ?_
      show GO p e below T92 (mkF m 204 (la19 p0 p1 p2 n1 n2 (2 : Int32) c0 c1 d0 d1 r_87 b89 vv) [(.int 2)]) _
      refine XS.iconst X92.here hx rfl (hb hby at_204) ?_
      show GO p e below T92 (mkF m 205 (la19 p0 p1 p2 n1 n2 (2 : Int32) c0 c1 d0 d1 r_87 b89 vv) [(.int 1), (.int 2)]) _
      refine XS.icmpYes X92.here hx rfl (pc0 := 205) (pc' := 212) rfl (hb hby at_205) rfl (feq ((by decide) : ¬ ((2 : Int32) = (1 : Int32)))).2 (by decide) (by decide) ?_
      show GO p e below T92 (mkF m 212 (la19 p0 p1 p2 n1 n2 (2 : Int32) c0 c1 d0 d1 r_87 b89 vv) []) _
      refine XS.iconst X92.here hx rfl (hb hby at_212) ?_
      show GO p e below T92 (mkF m 213 (la19 p0 p1 p2 n1 n2 (2 : Int32) c0 c1 d0 d1 r_87 b89 vv) [(.int 0)]) _
      refine XS.istore X92.here hx rfl (hb hby at_213) rfl (l' := (la20 p0 p1 p2 n1 n2 (2 : Int32) c0 c1 d0 d1 r_87 b89 vv (0 : Int32))) rfl ?_
      show GO p e below T92 (mkF m 215 (la20 p0 p1 p2 n1 n2 (2 : Int32) c0 c1 d0 d1 r_87 b89 vv (0 : Int32)) []) _
      refine XS.aload X92.here hx rfl (hb hby at_215) rfl rfl ?_
      show GO p e below T92 (mkF m 217 (la20 p0 p1 p2 n1 n2 (2 : Int32) c0 c1 d0 d1 r_87 b89 vv (0 : Int32)) [(.ref b89)]) _
      refine XS.aload X92.here hx rfl (hb hby at_217) rfl rfl ?_
      show GO p e below T92 (mkF m 219 (la20 p0 p1 p2 n1 n2 (2 : Int32) c0 c1 d0 d1 r_87 b89 vv (0 : Int32)) [.null, (.ref b89)]) _
      refine st233.trans ?_
      show GO p e below T233 (mkF m 222 (la20 p0 p1 p2 n1 n2 (2 : Int32) c0 c1 d0 d1 r_87 b89 vv (0 : Int32)) [(.int 0)]) _
      refine XS.iload X233.here hx rfl (hb hby at_222) rfl ?_
      show GO p e below T233 (mkF m 224 (la20 p0 p1 p2 n1 n2 (2 : Int32) c0 c1 d0 d1 r_87 b89 vv (0 : Int32)) [(.int 0), (.int 0)]) _
      refine XS.icmpNo X233.here hx rfl (hb hby at_224) rfl (teq (rfl : (0 : Int32) = (0 : Int32))).2 ?_
      show GO p e below T233 (mkF m 227 (la20 p0 p1 p2 n1 n2 (2 : Int32) c0 c1 d0 d1 r_87 b89 vv (0 : Int32)) []) _
      refine XS.iconst X233.here hx rfl (hb hby at_227) ?_
      show GO p e below T233 (mkF m 228 (la20 p0 p1 p2 n1 n2 (2 : Int32) c0 c1 d0 d1 r_87 b89 vv (0 : Int32)) [(.int 1)]) _
      refine XS.goto X233.here hx rfl (pc0 := 228) (pc' := 232) rfl (hb hby at_228) (by decide) (by decide) ?_
      show GO p e below T233 (mkF m 232 (la20 p0 p1 p2 n1 n2 (2 : Int32) c0 c1 d0 d1 r_87 b89 vv (0 : Int32)) [(.int 1)]) _
      exact retN X233 hx (t := .boolean) Bd.returns (by simp) (hb hby at_232) hr
    · show Qrm0 Z p0 p1 p2 z0 h0 n0 _ T233.heap _
      rw [e233]
      exact ⟨rfl, N233⟩
    · show CHr Z EL1 s.vm s.heap T233.vm T233.heap
      rw [hh, e233]
      exact CE
  · -- pc 150: BooleanVariableEqualsPinLaw.make by rm_make
    have f235 : Old Z n0 h92 := (((O0.keep K87 all0).ext E89).keep K92 (allS (by omega) all0))
    obtain ⟨_, _, ⟨T234, L234, k234, n234⟩, -, X234w, hS234w, gr234, ⟨Lc234, hQ234, l234, y234, z234, C234w⟩, st234⟩ := callSS X92 hx (y := (⟨"com/example/casemax/casemax/xadd/BooleanVariableEqualsPinLaw", "make", "(ICC)Ljava/lang/String;"⟩ : MethodName)) hown87 (mvT hZ87 (wd hw 0 rfl)) (mvT hZ87 (wd hw 1 rfl)) (mvT hZ87 (wd hw 2 rfl)) (mvT hZ87 (wd hw 3 rfl)) (by decide) (own_backS (W := 0) (rm_make l Z a0 hw [] n1 c0 c1 z0 h92 n0 (by omega) f235 (by first | assumption | decide | omega | exact neN (by omega)) (by first | assumption | decide | omega | exact neN (by omega)) g1 rc0 rc1 qc0 qc1) hZ87 (wd hw 3 rfl) (wd hw 2 rfl) (by decide) (by decide) (own_EW hw) C95.1 sf0 all0) (g := (mkF m 150 (la14 p0 p1 p2 n1 n2 (3 : Int32) c0 c1 d0 d1 r_87 b89) [(.int c1), (.int c0), (.int n1)])) rfl (by rw [hml]; rfl) (argsL := [(.int n1), (.int c0), (.int c1)]) (rest := []) (lenOf pd_3 rfl) rfl (by show 2 * 0 + _ ≤ _; exact Nat.le_of_eq rfl) (hb hby at_150) (fun _ _ => ⟨rfl, e92, (by decide : 7 + 6 ≤ _), (by decide : 13 + 12 ≤ _)⟩)
    dsimp only [Pt.U, Pt.locs, Pt.cells, Pt.slots] at X234w hS234w gr234 l234 y234 z234 st234 hQ234 C234w
    subst l234 y234 z234
    obtain ⟨X234, hS234, hZ234, hown234⟩ := rebS hS87 (by rw [e92]; omega) X234w hS234w gr234 hZ87 hown87
    obtain ⟨h234, e234⟩ : ∃ z, T234.heap = z := ⟨_, rfl⟩
    rw [e234] at hQ234
    obtain ⟨r_234, t_234, k_234, N_234, vs_234, rfl, N234q, K234, p234_0, p234_1, p234_2, p234_3, r234_0, r234_1, r234_2, r234_3⟩ := hQ234
    have N234 := Fr.app N92 N234q
    rw [e234] at C234w hS234
    have hk234 : h234.size ≤ h234.size := Nat.le_refl _
    have C236 : CHr Z EL1 s.vm h0 T234.vm h234 := C95.trans (C234w)
    have sz234 : h92.size ≤ h234.size := K234.1
    have lt234_0 := ltA p234_0.lt
    have lt234_3 := ltA p234_3.lt
    have pre237 : ∀ t, Steps p.tables e below (T234.setTop (mkF m 155 (la15 p0 p1 p2 n1 n2 (3 : Int32) c0 c1 d0 d1 r_87 b89 r_234) [])) t → Steps p.tables e below (s₁.setTop (entryFrame m #[(.int p0), (.int p1), (.int p2)] maxLocals)) t := by
      intro t kt
      refine pre96 t ?_
      show GO p e below T92 (mkF m 83 (la14 p0 p1 p2 n1 n2 (3 : Int32) c0 c1 d0 d1 r_87 b89) [(.int 3)]) _
      refine XS.ifYes X92.here hx rfl (pc0 := 83) (pc' := 107) rfl (hb hby at_83) rfl ((if0 _ _).trans (feq ((by decide) : ¬ ((3 : Int32) = (0 : Int32)))).2) (by decide) (by decide) ?_
      show GO p e below T92 (mkF m 107 (la14 p0 p1 p2 n1 n2 (3 : Int32) c0 c1 d0 d1 r_87 b89) []) _
      refine XS.iload X92.here hx rfl (hb hby at_107) rfl ?_
      show GO p e below T92 (mkF m 109 (la14 p0 p1 p2 n1 n2 (3 : Int32) c0 c1 d0 d1 r_87 b89) [(.int 3)]) _
      refine XS.iconst X92.here hx rfl (hb hby at_109) ?_
      show GO p e below T92 (mkF m 110 (la14 p0 p1 p2 n1 n2 (3 : Int32) c0 c1 d0 d1 r_87 b89) [(.int 1), (.int 3)]) _
      refine XS.icmpYes X92.here hx rfl (pc0 := 110) (pc' := 133) rfl (hb hby at_110) rfl (feq ((by decide) : ¬ ((3 : Int32) = (1 : Int32)))).2 (by decide) (by decide) ?_
      show GO p e below T92 (mkF m 133 (la14 p0 p1 p2 n1 n2 (3 : Int32) c0 c1 d0 d1 r_87 b89) []) _
      refine XS.iload X92.here hx rfl (hb hby at_133) rfl ?_
      show GO p e below T92 (mkF m 135 (la14 p0 p1 p2 n1 n2 (3 : Int32) c0 c1 d0 d1 r_87 b89) [(.int 3)]) _
      refine XS.iconst X92.here hx rfl (hb hby at_135) ?_
      show GO p e below T92 (mkF m 136 (la14 p0 p1 p2 n1 n2 (3 : Int32) c0 c1 d0 d1 r_87 b89) [(.int 2), (.int 3)]) _
      refine XS.icmpYes X92.here hx rfl (pc0 := 136) (pc' := 145) rfl (hb hby at_136) rfl (feq ((by decide) : ¬ ((3 : Int32) = (2 : Int32)))).2 (by decide) (by decide) ?_
      show GO p e below T92 (mkF m 145 (la14 p0 p1 p2 n1 n2 (3 : Int32) c0 c1 d0 d1 r_87 b89) []) _
      refine XS.iloadN X92.here hx rfl (hb hby at_145) rfl ?_
      show GO p e below T92 (mkF m 146 (la14 p0 p1 p2 n1 n2 (3 : Int32) c0 c1 d0 d1 r_87 b89) [(.int n1)]) _
      refine XS.iload X92.here hx rfl (hb hby at_146) rfl ?_
      show GO p e below T92 (mkF m 148 (la14 p0 p1 p2 n1 n2 (3 : Int32) c0 c1 d0 d1 r_87 b89) [(.int c0), (.int n1)]) _
      refine XS.iload X92.here hx rfl (hb hby at_148) rfl ?_
      show GO p e below T92 (mkF m 150 (la14 p0 p1 p2 n1 n2 (3 : Int32) c0 c1 d0 d1 r_87 b89) [(.int c1), (.int c0), (.int n1)]) _
      refine st234.trans ?_
      show GO p e below T234 (mkF m 153 (la14 p0 p1 p2 n1 n2 (3 : Int32) c0 c1 d0 d1 r_87 b89) [(.ref r_234)]) _
      refine XS.astore X234.here hx rfl (hb hby at_153) rfl rfl (l' := (la15 p0 p1 p2 n1 n2 (3 : Int32) c0 c1 d0 d1 r_87 b89 r_234)) rfl ?_
      exact kt
    obtain ⟨vv, hvv, pre238⟩ : ∃ vv : Int32, (vv = own_same n1 n2 c0 c1 d0 d1) ∧ ∀ t, Steps p.tables e below (T234.setTop (mkF m 190 (la15 p0 p1 p2 n1 n2 (3 : Int32) c0 c1 d0 d1 r_87 b89 r_234) [(.int vv)])) t → Steps p.tables e below (s₁.setTop (entryFrame m #[(.int p0), (.int p1), (.int p2)] maxLocals)) t := by
      have pre239 : ∀ t, Steps p.tables e below (T234.setTop (mkF m 158 (la15 p0 p1 p2 n1 n2 (3 : Int32) c0 c1 d0 d1 r_87 b89 r_234) [(.int n2), (.int n1)])) t → Steps p.tables e below (s₁.setTop (entryFrame m #[(.int p0), (.int p1), (.int p2)] maxLocals)) t := by
        intro t kt
        refine pre237 t ?_
        show GO p e below T234 (mkF m 155 (la15 p0 p1 p2 n1 n2 (3 : Int32) c0 c1 d0 d1 r_87 b89 r_234) []) _
        refine XS.iloadN X234.here hx rfl (hb hby at_155) rfl ?_
        show GO p e below T234 (mkF m 156 (la15 p0 p1 p2 n1 n2 (3 : Int32) c0 c1 d0 d1 r_87 b89 r_234) [(.int n1)]) _
        refine XS.iload X234.here hx rfl (hb hby at_156) rfl ?_
        exact kt
      by_cases hb240 : n1 = n2
      · have pre241 : ∀ t, Steps p.tables e below (T234.setTop (mkF m 163 (la15 p0 p1 p2 n1 n2 (3 : Int32) c0 c1 d0 d1 r_87 b89 r_234) [(.int 1), (.int n1)])) t → Steps p.tables e below (s₁.setTop (entryFrame m #[(.int p0), (.int p1), (.int p2)] maxLocals)) t := by
          intro t kt
          refine pre239 t ?_
          show GO p e below T234 (mkF m 158 (la15 p0 p1 p2 n1 n2 (3 : Int32) c0 c1 d0 d1 r_87 b89 r_234) [(.int n2), (.int n1)]) _
          refine XS.icmpNo X234.here hx rfl (hb hby at_158) rfl (teq (hb240 : n1 = n2)).2 ?_
          show GO p e below T234 (mkF m 161 (la15 p0 p1 p2 n1 n2 (3 : Int32) c0 c1 d0 d1 r_87 b89 r_234) []) _
          refine XS.iloadN X234.here hx rfl (hb hby at_161) rfl ?_
          show GO p e below T234 (mkF m 162 (la15 p0 p1 p2 n1 n2 (3 : Int32) c0 c1 d0 d1 r_87 b89 r_234) [(.int n1)]) _
          refine XS.iconst X234.here hx rfl (hb hby at_162) ?_
          exact kt
        by_cases hb242 : n1 < (1 : Int32)
        · have pre243 : ∀ t, Steps p.tables e below (T234.setTop (mkF m 175 (la15 p0 p1 p2 n1 n2 (3 : Int32) c0 c1 d0 d1 r_87 b89 r_234) [(.int 2), (.int n1)])) t → Steps p.tables e below (s₁.setTop (entryFrame m #[(.int p0), (.int p1), (.int p2)] maxLocals)) t := by
            intro t kt
            refine pre241 t ?_
            show GO p e below T234 (mkF m 163 (la15 p0 p1 p2 n1 n2 (3 : Int32) c0 c1 d0 d1 r_87 b89 r_234) [(.int 1), (.int n1)]) _
            refine XS.icmpYes X234.here hx rfl (pc0 := 163) (pc' := 173) rfl (hb hby at_163) rfl (tlt (hb242 : n1 < (1 : Int32))).1 (by decide) (by decide) ?_
            show GO p e below T234 (mkF m 173 (la15 p0 p1 p2 n1 n2 (3 : Int32) c0 c1 d0 d1 r_87 b89 r_234) []) _
            refine XS.iloadN X234.here hx rfl (hb hby at_173) rfl ?_
            show GO p e below T234 (mkF m 174 (la15 p0 p1 p2 n1 n2 (3 : Int32) c0 c1 d0 d1 r_87 b89 r_234) [(.int n1)]) _
            refine XS.iconst X234.here hx rfl (hb hby at_174) ?_
            exact kt
          by_cases hb244 : n1 < (2 : Int32)
          · have pre245 : ∀ t, Steps p.tables e below (T234.setTop (mkF m 190 (la15 p0 p1 p2 n1 n2 (3 : Int32) c0 c1 d0 d1 r_87 b89 r_234) [(.int 1)])) t → Steps p.tables e below (s₁.setTop (entryFrame m #[(.int p0), (.int p1), (.int p2)] maxLocals)) t := by
              intro t kt
              refine pre243 t ?_
              show GO p e below T234 (mkF m 175 (la15 p0 p1 p2 n1 n2 (3 : Int32) c0 c1 d0 d1 r_87 b89 r_234) [(.int 2), (.int n1)]) _
              refine XS.icmpYes X234.here hx rfl (pc0 := 175) (pc' := 185) rfl (hb hby at_175) rfl (tlt (hb244 : n1 < (2 : Int32))).1 (by decide) (by decide) ?_
              show GO p e below T234 (mkF m 185 (la15 p0 p1 p2 n1 n2 (3 : Int32) c0 c1 d0 d1 r_87 b89 r_234) []) _
              refine XS.iconst X234.here hx rfl (hb hby at_185) ?_
              show GO p e below T234 (mkF m 186 (la15 p0 p1 p2 n1 n2 (3 : Int32) c0 c1 d0 d1 r_87 b89 r_234) [(.int 1)]) _
              refine XS.goto X234.here hx rfl (pc0 := 186) (pc' := 190) rfl (hb hby at_186) (by decide) (by decide) ?_
              exact kt
            exact ⟨(1 : Int32), (by rw [own_same, if_pos ⟨hb240, Or.inl hb242, Or.inl hb244⟩]), fun t kt => pre245 t kt⟩
          · have pre246 : ∀ t, Steps p.tables e below (T234.setTop (mkF m 182 (la15 p0 p1 p2 n1 n2 (3 : Int32) c0 c1 d0 d1 r_87 b89 r_234) [(.int d1), (.int c1)])) t → Steps p.tables e below (s₁.setTop (entryFrame m #[(.int p0), (.int p1), (.int p2)] maxLocals)) t := by
              intro t kt
              refine pre243 t ?_
              show GO p e below T234 (mkF m 175 (la15 p0 p1 p2 n1 n2 (3 : Int32) c0 c1 d0 d1 r_87 b89 r_234) [(.int 2), (.int n1)]) _
              refine XS.icmpNo X234.here hx rfl (hb hby at_175) rfl (flt (hb244 : ¬ (n1 < (2 : Int32)))).1 ?_
              show GO p e below T234 (mkF m 178 (la15 p0 p1 p2 n1 n2 (3 : Int32) c0 c1 d0 d1 r_87 b89 r_234) []) _
              refine XS.iload X234.here hx rfl (hb hby at_178) rfl ?_
              show GO p e below T234 (mkF m 180 (la15 p0 p1 p2 n1 n2 (3 : Int32) c0 c1 d0 d1 r_87 b89 r_234) [(.int c1)]) _
              refine XS.iload X234.here hx rfl (hb hby at_180) rfl ?_
              exact kt
            by_cases hb247 : c1 = d1
            · have pre248 : ∀ t, Steps p.tables e below (T234.setTop (mkF m 190 (la15 p0 p1 p2 n1 n2 (3 : Int32) c0 c1 d0 d1 r_87 b89 r_234) [(.int 1)])) t → Steps p.tables e below (s₁.setTop (entryFrame m #[(.int p0), (.int p1), (.int p2)] maxLocals)) t := by
                intro t kt
                refine pre246 t ?_
                show GO p e below T234 (mkF m 182 (la15 p0 p1 p2 n1 n2 (3 : Int32) c0 c1 d0 d1 r_87 b89 r_234) [(.int d1), (.int c1)]) _
                refine XS.icmpNo X234.here hx rfl (hb hby at_182) rfl (teq (hb247 : c1 = d1)).2 ?_
                show GO p e below T234 (mkF m 185 (la15 p0 p1 p2 n1 n2 (3 : Int32) c0 c1 d0 d1 r_87 b89 r_234) []) _
                refine XS.iconst X234.here hx rfl (hb hby at_185) ?_
                show GO p e below T234 (mkF m 186 (la15 p0 p1 p2 n1 n2 (3 : Int32) c0 c1 d0 d1 r_87 b89 r_234) [(.int 1)]) _
                refine XS.goto X234.here hx rfl (pc0 := 186) (pc' := 190) rfl (hb hby at_186) (by decide) (by decide) ?_
                exact kt
              exact ⟨(1 : Int32), (by rw [own_same, if_pos ⟨hb240, Or.inl hb242, Or.inr hb247⟩]), fun t kt => pre248 t kt⟩
            · have pre249 : ∀ t, Steps p.tables e below (T234.setTop (mkF m 190 (la15 p0 p1 p2 n1 n2 (3 : Int32) c0 c1 d0 d1 r_87 b89 r_234) [(.int 0)])) t → Steps p.tables e below (s₁.setTop (entryFrame m #[(.int p0), (.int p1), (.int p2)] maxLocals)) t := by
                intro t kt
                refine pre246 t ?_
                show GO p e below T234 (mkF m 182 (la15 p0 p1 p2 n1 n2 (3 : Int32) c0 c1 d0 d1 r_87 b89 r_234) [(.int d1), (.int c1)]) _
                refine XS.icmpYes X234.here hx rfl (pc0 := 182) (pc' := 189) rfl (hb hby at_182) rfl (feq (hb247 : ¬ (c1 = d1))).2 (by decide) (by decide) ?_
                show GO p e below T234 (mkF m 189 (la15 p0 p1 p2 n1 n2 (3 : Int32) c0 c1 d0 d1 r_87 b89 r_234) []) _
                refine XS.iconst X234.here hx rfl (hb hby at_189) ?_
                exact kt
              exact ⟨(0 : Int32), (by rw [own_same, if_neg (fun q => q.2.2.elim hb244 hb247)]), fun t kt => pre249 t kt⟩
        · have pre250 : ∀ t, Steps p.tables e below (T234.setTop (mkF m 170 (la15 p0 p1 p2 n1 n2 (3 : Int32) c0 c1 d0 d1 r_87 b89 r_234) [(.int d0), (.int c0)])) t → Steps p.tables e below (s₁.setTop (entryFrame m #[(.int p0), (.int p1), (.int p2)] maxLocals)) t := by
            intro t kt
            refine pre241 t ?_
            show GO p e below T234 (mkF m 163 (la15 p0 p1 p2 n1 n2 (3 : Int32) c0 c1 d0 d1 r_87 b89 r_234) [(.int 1), (.int n1)]) _
            refine XS.icmpNo X234.here hx rfl (hb hby at_163) rfl (flt (hb242 : ¬ (n1 < (1 : Int32)))).1 ?_
            show GO p e below T234 (mkF m 166 (la15 p0 p1 p2 n1 n2 (3 : Int32) c0 c1 d0 d1 r_87 b89 r_234) []) _
            refine XS.iload X234.here hx rfl (hb hby at_166) rfl ?_
            show GO p e below T234 (mkF m 168 (la15 p0 p1 p2 n1 n2 (3 : Int32) c0 c1 d0 d1 r_87 b89 r_234) [(.int c0)]) _
            refine XS.iload X234.here hx rfl (hb hby at_168) rfl ?_
            exact kt
          by_cases hb251 : c0 = d0
          · have pre252 : ∀ t, Steps p.tables e below (T234.setTop (mkF m 175 (la15 p0 p1 p2 n1 n2 (3 : Int32) c0 c1 d0 d1 r_87 b89 r_234) [(.int 2), (.int n1)])) t → Steps p.tables e below (s₁.setTop (entryFrame m #[(.int p0), (.int p1), (.int p2)] maxLocals)) t := by
              intro t kt
              refine pre250 t ?_
              show GO p e below T234 (mkF m 170 (la15 p0 p1 p2 n1 n2 (3 : Int32) c0 c1 d0 d1 r_87 b89 r_234) [(.int d0), (.int c0)]) _
              refine XS.icmpNo X234.here hx rfl (hb hby at_170) rfl (teq (hb251 : c0 = d0)).2 ?_
              show GO p e below T234 (mkF m 173 (la15 p0 p1 p2 n1 n2 (3 : Int32) c0 c1 d0 d1 r_87 b89 r_234) []) _
              refine XS.iloadN X234.here hx rfl (hb hby at_173) rfl ?_
              show GO p e below T234 (mkF m 174 (la15 p0 p1 p2 n1 n2 (3 : Int32) c0 c1 d0 d1 r_87 b89 r_234) [(.int n1)]) _
              refine XS.iconst X234.here hx rfl (hb hby at_174) ?_
              exact kt
            by_cases hb253 : n1 < (2 : Int32)
            · have pre254 : ∀ t, Steps p.tables e below (T234.setTop (mkF m 190 (la15 p0 p1 p2 n1 n2 (3 : Int32) c0 c1 d0 d1 r_87 b89 r_234) [(.int 1)])) t → Steps p.tables e below (s₁.setTop (entryFrame m #[(.int p0), (.int p1), (.int p2)] maxLocals)) t := by
                intro t kt
                refine pre252 t ?_
                show GO p e below T234 (mkF m 175 (la15 p0 p1 p2 n1 n2 (3 : Int32) c0 c1 d0 d1 r_87 b89 r_234) [(.int 2), (.int n1)]) _
                refine XS.icmpYes X234.here hx rfl (pc0 := 175) (pc' := 185) rfl (hb hby at_175) rfl (tlt (hb253 : n1 < (2 : Int32))).1 (by decide) (by decide) ?_
                show GO p e below T234 (mkF m 185 (la15 p0 p1 p2 n1 n2 (3 : Int32) c0 c1 d0 d1 r_87 b89 r_234) []) _
                refine XS.iconst X234.here hx rfl (hb hby at_185) ?_
                show GO p e below T234 (mkF m 186 (la15 p0 p1 p2 n1 n2 (3 : Int32) c0 c1 d0 d1 r_87 b89 r_234) [(.int 1)]) _
                refine XS.goto X234.here hx rfl (pc0 := 186) (pc' := 190) rfl (hb hby at_186) (by decide) (by decide) ?_
                exact kt
              exact ⟨(1 : Int32), (by rw [own_same, if_pos ⟨hb240, Or.inr hb251, Or.inl hb253⟩]), fun t kt => pre254 t kt⟩
            · have pre255 : ∀ t, Steps p.tables e below (T234.setTop (mkF m 182 (la15 p0 p1 p2 n1 n2 (3 : Int32) c0 c1 d0 d1 r_87 b89 r_234) [(.int d1), (.int c1)])) t → Steps p.tables e below (s₁.setTop (entryFrame m #[(.int p0), (.int p1), (.int p2)] maxLocals)) t := by
                intro t kt
                refine pre252 t ?_
                show GO p e below T234 (mkF m 175 (la15 p0 p1 p2 n1 n2 (3 : Int32) c0 c1 d0 d1 r_87 b89 r_234) [(.int 2), (.int n1)]) _
                refine XS.icmpNo X234.here hx rfl (hb hby at_175) rfl (flt (hb253 : ¬ (n1 < (2 : Int32)))).1 ?_
                show GO p e below T234 (mkF m 178 (la15 p0 p1 p2 n1 n2 (3 : Int32) c0 c1 d0 d1 r_87 b89 r_234) []) _
                refine XS.iload X234.here hx rfl (hb hby at_178) rfl ?_
                show GO p e below T234 (mkF m 180 (la15 p0 p1 p2 n1 n2 (3 : Int32) c0 c1 d0 d1 r_87 b89 r_234) [(.int c1)]) _
                refine XS.iload X234.here hx rfl (hb hby at_180) rfl ?_
                exact kt
              by_cases hb256 : c1 = d1
              · have pre257 : ∀ t, Steps p.tables e below (T234.setTop (mkF m 190 (la15 p0 p1 p2 n1 n2 (3 : Int32) c0 c1 d0 d1 r_87 b89 r_234) [(.int 1)])) t → Steps p.tables e below (s₁.setTop (entryFrame m #[(.int p0), (.int p1), (.int p2)] maxLocals)) t := by
                  intro t kt
                  refine pre255 t ?_
                  show GO p e below T234 (mkF m 182 (la15 p0 p1 p2 n1 n2 (3 : Int32) c0 c1 d0 d1 r_87 b89 r_234) [(.int d1), (.int c1)]) _
                  refine XS.icmpNo X234.here hx rfl (hb hby at_182) rfl (teq (hb256 : c1 = d1)).2 ?_
                  show GO p e below T234 (mkF m 185 (la15 p0 p1 p2 n1 n2 (3 : Int32) c0 c1 d0 d1 r_87 b89 r_234) []) _
                  refine XS.iconst X234.here hx rfl (hb hby at_185) ?_
                  show GO p e below T234 (mkF m 186 (la15 p0 p1 p2 n1 n2 (3 : Int32) c0 c1 d0 d1 r_87 b89 r_234) [(.int 1)]) _
                  refine XS.goto X234.here hx rfl (pc0 := 186) (pc' := 190) rfl (hb hby at_186) (by decide) (by decide) ?_
                  exact kt
                exact ⟨(1 : Int32), (by rw [own_same, if_pos ⟨hb240, Or.inr hb251, Or.inr hb256⟩]), fun t kt => pre257 t kt⟩
              · have pre258 : ∀ t, Steps p.tables e below (T234.setTop (mkF m 190 (la15 p0 p1 p2 n1 n2 (3 : Int32) c0 c1 d0 d1 r_87 b89 r_234) [(.int 0)])) t → Steps p.tables e below (s₁.setTop (entryFrame m #[(.int p0), (.int p1), (.int p2)] maxLocals)) t := by
                  intro t kt
                  refine pre255 t ?_
                  show GO p e below T234 (mkF m 182 (la15 p0 p1 p2 n1 n2 (3 : Int32) c0 c1 d0 d1 r_87 b89 r_234) [(.int d1), (.int c1)]) _
                  refine XS.icmpYes X234.here hx rfl (pc0 := 182) (pc' := 189) rfl (hb hby at_182) rfl (feq (hb256 : ¬ (c1 = d1))).2 (by decide) (by decide) ?_
                  show GO p e below T234 (mkF m 189 (la15 p0 p1 p2 n1 n2 (3 : Int32) c0 c1 d0 d1 r_87 b89 r_234) []) _
                  refine XS.iconst X234.here hx rfl (hb hby at_189) ?_
                  exact kt
                exact ⟨(0 : Int32), (by rw [own_same, if_neg (fun q => q.2.2.elim hb253 hb256)]), fun t kt => pre258 t kt⟩
          · have pre259 : ∀ t, Steps p.tables e below (T234.setTop (mkF m 190 (la15 p0 p1 p2 n1 n2 (3 : Int32) c0 c1 d0 d1 r_87 b89 r_234) [(.int 0)])) t → Steps p.tables e below (s₁.setTop (entryFrame m #[(.int p0), (.int p1), (.int p2)] maxLocals)) t := by
              intro t kt
              refine pre250 t ?_
              show GO p e below T234 (mkF m 170 (la15 p0 p1 p2 n1 n2 (3 : Int32) c0 c1 d0 d1 r_87 b89 r_234) [(.int d0), (.int c0)]) _
              refine XS.icmpYes X234.here hx rfl (pc0 := 170) (pc' := 189) rfl (hb hby at_170) rfl (feq (hb251 : ¬ (c0 = d0))).2 (by decide) (by decide) ?_
              show GO p e below T234 (mkF m 189 (la15 p0 p1 p2 n1 n2 (3 : Int32) c0 c1 d0 d1 r_87 b89 r_234) []) _
              refine XS.iconst X234.here hx rfl (hb hby at_189) ?_
              exact kt
            exact ⟨(0 : Int32), (by rw [own_same, if_neg (fun q => q.2.1.elim hb242 hb251)]), fun t kt => pre259 t kt⟩
      · have pre260 : ∀ t, Steps p.tables e below (T234.setTop (mkF m 190 (la15 p0 p1 p2 n1 n2 (3 : Int32) c0 c1 d0 d1 r_87 b89 r_234) [(.int 0)])) t → Steps p.tables e below (s₁.setTop (entryFrame m #[(.int p0), (.int p1), (.int p2)] maxLocals)) t := by
          intro t kt
          refine pre239 t ?_
          show GO p e below T234 (mkF m 158 (la15 p0 p1 p2 n1 n2 (3 : Int32) c0 c1 d0 d1 r_87 b89 r_234) [(.int n2), (.int n1)]) _
          refine XS.icmpYes X234.here hx rfl (pc0 := 158) (pc' := 189) rfl (hb hby at_158) rfl (feq (hb240 : ¬ (n1 = n2))).2 (by decide) (by decide) ?_
          show GO p e below T234 (mkF m 189 (la15 p0 p1 p2 n1 n2 (3 : Int32) c0 c1 d0 d1 r_87 b89 r_234) []) _
          refine XS.iconst X234.here hx rfl (hb hby at_189) ?_
          exact kt
        exact ⟨(0 : Int32), (by rw [own_same, if_neg (fun q => hb240 q.1)]), fun t kt => pre260 t kt⟩
    -- pc 219: BooleanVariable.equals by rm_eqs
    have f262 : Exa Z h234 b89 kS0 := (p92_0.keep K234)
    obtain ⟨cq261, kq261, q261a, q261b, q261c⟩ := isOf hZ234 e234 f262
    obtain ⟨_, _, ⟨T261, L261, k261, n261⟩, -, X261, ⟨Lc261, hQ261, l261, y261, z261⟩, st261⟩ := X234.virtualBack hx (y := (⟨kS0, "equals", "(Ljava/lang/Object;)Z"⟩ : MethodName)) (z := (⟨kS0, "equals", "(Ljava/lang/Object;)Z"⟩ : MethodName)) hown234 (mvT hZ234 (wd hw 35 rfl)) (mvT hZ234 (wd hw 36 rfl)) (notFace_of_selects (args := #[]) (mvT hZ234 (wd hw 38 rfl))) (mvT hZ234 (wd hw 38 rfl)) (mvT hZ234 (wd hw 37 rfl)) (by decide) (backOf (W := 0) (rm_eqs l Z a0 hw [] b89 r_234 h234 n0 (by omega) p234_0) hZ234 (wd hw 39 rfl) (wd hw 28 rfl) (by decide) (by decide)) q261a q261c (g := (mkF m 219 (la17 p0 p1 p2 n1 n2 (3 : Int32) c0 c1 d0 d1 r_87 b89 r_234 vv (0 : Int32)) [(.ref r_234), (.ref b89)])) rfl (by rw [hml]; rfl) (Steps.refl _) (argsL := [(.ref r_234)]) (rest := []) (lenOf pd_2 rfl) rfl (by show 2 * 0 + _ ≤ _; exact Nat.le_of_eq rfl) (hb hby at_219) (fun _ _ => ⟨rfl, e234, (by decide : 13 + 0 ≤ _), (by decide : 25 + 0 ≤ _)⟩)
    dsimp only [Pt.U, Pt.locs, Pt.cells, Pt.slots] at X261 l261 y261 z261 st261 hQ261
    subst l261 y261 z261
    obtain ⟨rfl, N261q, e261⟩ := hQ261
    have N261 := Fr.app N234 N261q
    obtain ⟨fs, hr, hrun, hended, hE⟩ := X261.leaveW hS234 (by rw [e261]; omega) (v := some (.int 1)) (fun h => by rw [Bd.returns] at h; cases h)
    have CE := C236.trans (CHv.at X261 hZ234 (own_EW hw) C236.1)
    refine ⟨_, _, pre238 _ ?_, hrun, hended, _, _, rfl, ?_, ?_, ⟨hE.1, hE.2.1, hE.2.2.1, hE.2.2.2.mono (by decide) (by decide)⟩⟩
    · show GO p e below T234 (mkF m 190 (la15 p0 p1 p2 n1 n2 (3 : Int32) c0 c1 d0 d1 r_87 b89 r_234) [(.int vv)]) _
      refine XS.istore X234.here hx rfl (hb hby at_190) rfl (l' := (la16 p0 p1 p2 n1 n2 (3 : Int32) c0 c1 d0 d1 r_87 b89 r_234 vv)) rfl ?_
      show GO p e below T234 (mkF m 192 (la16 p0 p1 p2 n1 n2 (3 : Int32) c0 c1 d0 d1 r_87 b89 r_234 vv) []) _
      refine XS.iload X234.here hx rfl (hb hby at_192) rfl ?_
      show GO p e below T234 (mkF m 194 (la16 p0 p1 p2 n1 n2 (3 : Int32) c0 c1 d0 d1 r_87 b89 r_234 vv) [(.int 3)]) _
      refine XS.ifYes X234.here hx rfl (pc0 := 194) (pc' := 202) rfl (hb hby at_194) rfl ((if0 _ _).trans (feq ((by decide) : ¬ ((3 : Int32) = (0 : Int32)))).2) (by decide) (by decide) ?_
      show GO p e below T234 (mkF m 202 (la16 p0 p1 p2 n1 n2 (3 : Int32) c0 c1 d0 d1 r_87 b89 r_234 vv) []) _
      refine XS.iload X234.here hx rfl (hb hby at_202) rfl ?_
      show GO p e below T234 (mkF m 204 (la16 p0 p1 p2 n1 n2 (3 : Int32) c0 c1 d0 d1 r_87 b89 r_234 vv) [(.int 3)]) _
      refine XS.iconst X234.here hx rfl (hb hby at_204) ?_
      show GO p e below T234 (mkF m 205 (la16 p0 p1 p2 n1 n2 (3 : Int32) c0 c1 d0 d1 r_87 b89 r_234 vv) [(.int 1), (.int 3)]) _
      refine XS.icmpYes X234.here hx rfl (pc0 := 205) (pc' := 212) rfl (hb hby at_205) rfl (feq ((by decide) : ¬ ((3 : Int32) = (1 : Int32)))).2 (by decide) (by decide) ?_
      show GO p e below T234 (mkF m 212 (la16 p0 p1 p2 n1 n2 (3 : Int32) c0 c1 d0 d1 r_87 b89 r_234 vv) []) _
      refine XS.iconst X234.here hx rfl (hb hby at_212) ?_
      show GO p e below T234 (mkF m 213 (la16 p0 p1 p2 n1 n2 (3 : Int32) c0 c1 d0 d1 r_87 b89 r_234 vv) [(.int 0)]) _
      refine XS.istore X234.here hx rfl (hb hby at_213) rfl (l' := (la17 p0 p1 p2 n1 n2 (3 : Int32) c0 c1 d0 d1 r_87 b89 r_234 vv (0 : Int32))) rfl ?_
      show GO p e below T234 (mkF m 215 (la17 p0 p1 p2 n1 n2 (3 : Int32) c0 c1 d0 d1 r_87 b89 r_234 vv (0 : Int32)) []) _
      refine XS.aload X234.here hx rfl (hb hby at_215) rfl rfl ?_
      show GO p e below T234 (mkF m 217 (la17 p0 p1 p2 n1 n2 (3 : Int32) c0 c1 d0 d1 r_87 b89 r_234 vv (0 : Int32)) [(.ref b89)]) _
      refine XS.aload X234.here hx rfl (hb hby at_217) rfl rfl ?_
      show GO p e below T234 (mkF m 219 (la17 p0 p1 p2 n1 n2 (3 : Int32) c0 c1 d0 d1 r_87 b89 r_234 vv (0 : Int32)) [(.ref r_234), (.ref b89)]) _
      refine st261.trans ?_
      show GO p e below T261 (mkF m 222 (la17 p0 p1 p2 n1 n2 (3 : Int32) c0 c1 d0 d1 r_87 b89 r_234 vv (0 : Int32)) [(.int 0)]) _
      refine XS.iload X261.here hx rfl (hb hby at_222) rfl ?_
      show GO p e below T261 (mkF m 224 (la17 p0 p1 p2 n1 n2 (3 : Int32) c0 c1 d0 d1 r_87 b89 r_234 vv (0 : Int32)) [(.int 0), (.int 0)]) _
      refine XS.icmpNo X261.here hx rfl (hb hby at_224) rfl (teq (rfl : (0 : Int32) = (0 : Int32))).2 ?_
      show GO p e below T261 (mkF m 227 (la17 p0 p1 p2 n1 n2 (3 : Int32) c0 c1 d0 d1 r_87 b89 r_234 vv (0 : Int32)) []) _
      refine XS.iconst X261.here hx rfl (hb hby at_227) ?_
      show GO p e below T261 (mkF m 228 (la17 p0 p1 p2 n1 n2 (3 : Int32) c0 c1 d0 d1 r_87 b89 r_234 vv (0 : Int32)) [(.int 1)]) _
      refine XS.goto X261.here hx rfl (pc0 := 228) (pc' := 232) rfl (hb hby at_228) (by decide) (by decide) ?_
      show GO p e below T261 (mkF m 232 (la17 p0 p1 p2 n1 n2 (3 : Int32) c0 c1 d0 d1 r_87 b89 r_234 vv (0 : Int32)) [(.int 1)]) _
      exact retN X261 hx (t := .boolean) Bd.returns (by simp) (hb hby at_232) hr
    · show Qrm0 Z p0 p1 p2 z0 h0 n0 _ T261.heap _
      rw [e261]
      exact ⟨rfl, N261⟩
    · show CHr Z EL1 s.vm s.heap T261.vm T261.heap
      rw [hh, e261]
      exact CE
set_option maxRecDepth 65536 in
set_option maxHeartbeats 40000000 in
theorem comes_1 {Post : Tables → Env → Array Value → State → Outcome → State → Prop} (hpost : ∀ tb e args s v u, (limb_1_1.after args s (.returned v) u = true ∧ limb_1_2.after args s (.returned v) u = true ∧ True) → Jvm.D.FramedW s (.returned v) u (Jvm.fieldLocs frame_1_writes args s ++ Jvm.arrayLocs frame_1_arrays args s ++ Jvm.staticLocs frame_1_statics s) 32 1152 → Post tb e args s (.returned v) u) :
    ArmFor flags0 classFile x code maxLocals ret World_1 tables_1 room_1 Calls_1 rest_1 Pre_1 Post := by
  intro l hfl _ _ p e ha hc hk s m args below hf hA hF happ hP
  obtain ⟨hcalls, hrest, hpre⟩ := hP
  obtain ⟨-, -, -, hnamed, -, -, -, hat⟩ := (Spec.applies_iff hf).mp happ
  obtain ⟨hg, hn⟩ := and_e (Cond.before_iff.mp (show (Jvm.Cond.and given_1 narrow_1).before args s = true from hpre))
  obtain ⟨g0a, g0b⟩ := and_e hg
  obtain ⟨g1a, g1b⟩ := and_e g0b
  obtain ⟨g2a, g2b⟩ := and_e g1b
  obtain ⟨w0, w1, w2, rfl⟩ : ∃ w0 w1 w2 : Value, args = #[w0, w1, w2] := by
    have hs : args.size = 3 := by simpa [Cond.value, given_1] using g0a
    obtain ⟨L⟩ := args
    match L, hs with
    | [w0, w1, w2], _ => exact ⟨w0, w1, w2, rfl⟩
  have hw := fun d (hd : d ∈ tables_1) => atoms_spec (ws := Jvm.Cond.code x code maxLocals ret :: tables_1) hat d (List.mem_cons_of_mem _ hd)
  have hfit : Fit s := fun {y c} hc i hi => by
    obtain ⟨ha, rfl⟩ := Array.getElem?_eq_some_iff.mp hc
    have q := List.all_eq_true.mp ((Array.all_eq_true_iff_forall_mem.mp hF) _ (Array.getElem_mem ha)) i (List.mem_range.mpr hi)
    simpa [Array.getElem?_eq_getElem hi] using q
  obtain ⟨hsets, hown0⟩ := atoms_of _ (rest_1_c_eq ▸ (show rest_1_c.before _ s = true from hrest))
  have hr0 := Cond.before_iff.mp hown0
  obtain ⟨i0, ei0⟩ := is_v g1a
  obtain rfl : w0 = (.int i0) := Option.some.inj ei0
  obtain ⟨i1, ei1⟩ := is_v g2a
  obtain rfl : w1 = (.int i1) := Option.some.inj ei1
  obtain ⟨i2, ei2⟩ := is_v g2b
  obtain rfl : w2 = (.int i2) := Option.some.inj ei2
  have n3 := not_v (Cond.before_iff.mp (hsets _ (List.mem_of_getElem? (i := 2) rfl)))
  obtain ⟨z0, ez0⟩ := is_v (Cond.before_iff.mp (hsets _ (List.mem_of_getElem? (i := 1) rfl)))
  have SZ0 : Sta s s.heap "java/lang/String" "COMPACT_STRINGS" "Z" (.int z0) := Sta.start ez0 (Or.inl (hsets _ (List.mem_of_getElem? (i := 0) rfl)))
  have hz0 : ¬ (z0 = (0 : Int32)) := gotF (Cond.eq_ints ez0 (Term.int_eval (0))) n3
  have H0 : CHv s EL1 s.vm s.heap := CHv.start (own_EW hw) (fun p hp => hcalls.1 p hp) (hsets _ (List.mem_of_getElem? (i := 2) rfl)) (own_wb hw) (own_wi hw)
  obtain ⟨n, o, h1, h2, h3, _, L, rfl, ⟨rfl, N⟩, -, hq⟩ := rm0 l s _ hw tables_1 i0 i1 i2 z0 s.heap s.heap.size (Nat.le_refl _) (Old.start s) SZ0 hz0 p e ha hc hk s m _ below hf ((Spec.applies_iff_loose hf).mp happ).1 ⟨rfl, State.Warmed39.refl s, rfl, H0, fun _ h => absurd h (List.not_mem_nil)⟩ trivial
  refine ⟨n, _, h1, h2, h3, hpost _ _ _ _ _ _ ⟨Cond.after_iff.mpr rfl, Cond.after_iff.mpr (eq_i res_at (Term.int_eval (1)) rfl), trivial⟩ ⟨hq.1, hq.2.1, hq.2.2.1, (hq.2.2.2.sift fun y hy => Or.inr (N y hy)).mono (by decide) (by decide)⟩⟩
theorem main_1_1 : Claimed_1_1 := comes_1 fun _ _ _ _ _ _ h hF => ⟨h.1, hF⟩
theorem main_1_2 : Claimed_1_2 := comes_1 fun _ _ _ _ _ _ h hF => ⟨h.2.1, hF⟩
end Jvm.Pilot.@@N@@
namespace Jvm.Pilot.@@N@@
open Jvm Jvm.ClassFile Sem Op Lib Jvm.Free Jvm.Stand Jvm.Pilot.@@N@@.Jvm.D
/-! MADE BY PROGRAM (witnessworld.py) out of the Statement's table words and the real class files: 21 classes; the members and pool entries that the words name. The judged class is class 1, her method 2. -/
namespace start1
open Jvm.ClassFile
def u (s : String) : CpInfo := .utf8 (stringToUtf16 s)
/-- a pool by its gaps: so many unusable entries, then the entry; so many at the end -/
def gap : Nat → List CpInfo → List CpInfo
  | 0, r => r
  | n + 1, r => .unusable :: gap n r
def poolList (es : List (Nat × CpInfo)) (last : Nat) : List CpInfo := es.foldr (fun e r => gap e.1 (e.2 :: r)) (gap last [])
def pool (es : List (Nat × CpInfo)) (last : Nat) : Array CpInfo := ⟨poolList es last⟩
def fileOf (pool : Array CpInfo) (this : Nat) (attrs : Array Attribute := #[]) (ms : Array MethodInfo := #[]) (fl : Nat := 33) (sup : Nat := 0) (ifs : Array Nat := #[]) (fds : Array FieldInfo := #[]) : ClassFile where
  minorVersion := 0
  majorVersion := 65
  constantPool := pool
  accessFlags := fl
  thisClass := this
  superClass := sup
  interfaces := ifs
  fields := fds
  methods := ms
  attributes := attrs
def plain (name : String) (sup : Option ClassId) : Class where
  name := name
  kind := .ordinary
  loader := none
  accessFlags := 33
  super := sup
  interfaces := #[]
  cf := none
  fields := #[]
  methods := #[]
  instanceTypes := #[]
  staticTypes := #[]
  resolved := #[]
  callSites := []
  init := .initialized
  statics := none
  mirror := none

def pool0 : Array CpInfo := pool [(5, u "<init>"), (0, u "()V"), (1, .class_ 10), (1, u "java/lang/Object")] 113

def k0c0 : Code := { maxStack := 0, maxLocals := 1, code := object_method_1_code, exceptionTable := #[], attributes := #[] }
def k0m0 : Method := { name := "<init>", desc := "()V", sig := { parameters := [], returnType := none }, accessFlags := 1, code := some k0c0 }
/-- java/lang/Object -/
def k0 : Class := { plain "java/lang/Object" none with
  accessFlags := 33
  interfaces := #[]
  cf := some (fileOf pool0 8 #[] #[{ accessFlags := 1, nameIndex := 5, descriptorIndex := 6, attributes := #[] }] 33 0 #[] #[])
  fields := #[]
  methods := #[k0m0]
  instanceTypes := #[]
  staticTypes := #[]
  resolved := Array.replicate 124 none
  statics := none }

def pool1 : Array CpInfo := pool [(2, .class_ 4), (1, u "java/lang/Object"), (0, u "<init>"), (0, u "()V"), (0, .class_ 8), (0, u "java/lang/String"), (0, .methodref 7 10), (0, .nameAndType 5 11), (0, u "([C)V"), (0, .methodref 13 14), (0, .class_ 15), (0, .nameAndType 16 17), (0, u "com/example/casemax/casemax/xadd/BooleanVariableEqualsPinLaw"), (0, u "make"), (0, u "(ICC)Ljava/lang/String;"), (0, .class_ 19), (0, u "com/example/casemax/casemax/xadd/BooleanVariable"), (0, .methodref 18 21), (0, .nameAndType 5 22), (0, u "(Ljava/lang/String;)V"), (0, .methodref 18 24), (0, .nameAndType 25 26), (0, u "equals"), (0, u "(Ljava/lang/Object;)Z"), (3, u "law"), (0, u "(III)Z")] 2

def k1m0 : Method := { name := "<init>", desc := "()V", sig := { parameters := [], returnType := none }, accessFlags := 1, code := none }
def k1c1 : Code := { maxStack := 6, maxLocals := 3, code := method_2_code, exceptionTable := #[], attributes := #[] }
def k1m1 : Method := { name := "make", desc := "(ICC)Ljava/lang/String;", sig := { parameters := [.int, .char, .char], returnType := some (.object "java/lang/String") }, accessFlags := 10, code := some k1c1 }
def k1c2 : Code := { maxStack := 5, maxLocals := 15, code := code, exceptionTable := #[], attributes := #[] }
def k1m2 : Method := { name := "law", desc := "(III)Z", sig := { parameters := [.int, .int, .int], returnType := some .boolean }, accessFlags := 9, code := some k1c2 }
/-- com/example/casemax/casemax/xadd/BooleanVariableEqualsPinLaw -/
def k1 : Class := { plain "com/example/casemax/casemax/xadd/BooleanVariableEqualsPinLaw" (some 0) with
  accessFlags := 49
  interfaces := #[]
  cf := some (fileOf pool1 13 #[] #[{ accessFlags := 1, nameIndex := 5, descriptorIndex := 6, attributes := #[] }, { accessFlags := 10, nameIndex := 16, descriptorIndex := 17, attributes := #[] }, { accessFlags := 9, nameIndex := 30, descriptorIndex := 31, attributes := #[] }] 49 2 #[] #[])
  fields := #[]
  methods := #[k1m0, k1m1, k1m2]
  instanceTypes := #[]
  staticTypes := #[]
  resolved := Array.replicate 34 none
  statics := none }

def pool2 : Array CpInfo := pool [(1, .class_ 2), (0, u "java/io/Serializable"), (0, .class_ 4), (0, u "java/lang/Object")] 2

/-- java/io/Serializable -/
def k2 : Class := { plain "java/io/Serializable" (some 0) with
  accessFlags := 1537
  interfaces := #[]
  cf := some (fileOf pool2 1 #[] #[] 1537 3 #[] #[])
  fields := #[]
  methods := #[]
  instanceTypes := #[]
  staticTypes := #[]
  resolved := Array.replicate 7 none
  statics := none }

def pool3 : Array CpInfo := pool [(1, .class_ 2), (0, u "java/lang/Comparable"), (0, .class_ 4), (0, u "java/lang/Object")] 7

/-- java/lang/Comparable -/
def k3 : Class := { plain "java/lang/Comparable" (some 0) with
  accessFlags := 1537
  interfaces := #[]
  cf := some (fileOf pool3 1 #[] #[] 1537 3 #[] #[])
  fields := #[]
  methods := #[]
  instanceTypes := #[]
  staticTypes := #[]
  resolved := Array.replicate 12 none
  statics := none }

def pool4 : Array CpInfo := pool [(2, .class_ 4), (1, u "java/lang/CharSequence"), (42, .class_ 48), (0, u "java/lang/CharSequence$1CodePointIterator"), (10, .class_ 60), (0, u "java/lang/CharSequence$1CharIterator"), (5, .class_ 67), (0, u "java/lang/Object")] 63

/-- java/lang/CharSequence -/
def k4 : Class := { plain "java/lang/CharSequence" (some 0) with
  accessFlags := 1537
  interfaces := #[]
  cf := some (fileOf pool4 2 #[.nestMembers #[47, 59]] #[] 1537 66 #[] #[])
  fields := #[]
  methods := #[]
  instanceTypes := #[]
  staticTypes := #[]
  resolved := Array.replicate 131 none
  statics := none }

def pool5 : Array CpInfo := pool [(1, .class_ 2), (0, u "java/lang/constant/Constable"), (0, .class_ 4), (0, u "java/lang/Object")] 6

/-- java/lang/constant/Constable -/
def k5 : Class := { plain "java/lang/constant/Constable" (some 0) with
  accessFlags := 1537
  interfaces := #[]
  cf := some (fileOf pool5 1 #[] #[] 1537 3 #[] #[])
  fields := #[]
  methods := #[]
  instanceTypes := #[]
  staticTypes := #[]
  resolved := Array.replicate 11 none
  statics := none }

def pool6 : Array CpInfo := pool [(1, .class_ 2), (0, u "java/lang/constant/ConstantDesc"), (0, .class_ 4), (0, u "java/lang/Object")] 32

/-- java/lang/constant/ConstantDesc -/
def k6 : Class := { plain "java/lang/constant/ConstantDesc" (some 0) with
  accessFlags := 1537
  interfaces := #[]
  cf := some (fileOf pool6 1 #[] #[] 1537 3 #[] #[])
  fields := #[]
  methods := #[]
  instanceTypes := #[]
  staticTypes := #[]
  resolved := Array.replicate 37 none
  statics := none }

def pool7 : Array CpInfo := pool [(1, .methodref 2 3), (0, .class_ 4), (0, .nameAndType 5 6), (0, u "java/lang/Object"), (0, u "<init>"), (0, u "()V"), (0, .string 8), (0, u ""), (0, .fieldref 10 11), (0, .class_ 12), (0, .nameAndType 13 14), (0, u "java/lang/String"), (0, u "value"), (0, u "[B"), (0, .fieldref 10 16), (0, .nameAndType 17 18), (0, u "coder"), (0, u "B"), (2, u "hash"), (0, u "I"), (2, u "hashIsZero"), (0, u "Z"), (0, .methodref 10 28), (0, .nameAndType 5 29), (0, u "([CIILjava/lang/Void;)V"), (8, .fieldref 10 39), (0, .nameAndType 40 26), (0, u "COMPACT_STRINGS"), (1, .class_ 44), (1, u "java/lang/StringUTF16"), (0, u "compress"), (1, .methodref 42 48), (0, .nameAndType 49 50), (0, u "coderFromArrayLen"), (0, u "([BI)B"), (56, .class_ 109), (1, u "java/lang/StringLatin1"), (67, .methodref 42 178), (0, .nameAndType 45 179), (0, u "([CII)[B"), (361, .methodref 107 542), (0, .nameAndType 543 544), (0, u "equals"), (0, u "([B[B)Z"), (28, u "(Ljava/lang/Object;)Z"), (1, .class_ 576), (0, u "java/lang/CharSequence"), (22, u "CASE_INSENSITIVE_ORDER"), (0, u "Ljava/util/Comparator;"), (409, u "([C)V"), (90, u "serialPersistentFields"), (0, u "[Ljava/io/ObjectStreamField;"), (0, .class_ 1104), (0, u "java/lang/String$CaseInsensitiveComparator"), (1, .class_ 1107), (0, u "java/io/Serializable"), (0, .class_ 1109), (0, u "java/lang/Comparable"), (0, .class_ 1111), (0, u "java/lang/constant/Constable"), (0, .class_ 1113), (0, u "java/lang/constant/ConstantDesc"), (2, u "serialVersionUID"), (0, u "J"), (3, u "REPL"), (0, u "C"), (2, u "LATIN1"), (1, u "UTF16")] 323

def k7m0 : Method := { name := "<init>", desc := "()V", sig := { parameters := [], returnType := none }, accessFlags := 1, code := none }
def k7c1 : Code := { maxStack := 5, maxLocals := 2, code := jdk_42_method_3_code, exceptionTable := #[], attributes := #[] }
def k7m1 : Method := { name := "<init>", desc := "([C)V", sig := { parameters := [(.array .char)], returnType := none }, accessFlags := 1, code := some k7c1 }
def k7c2 : Code := { maxStack := 2, maxLocals := 3, code := jdk_42_method_66_code, exceptionTable := #[], attributes := #[] }
def k7m2 : Method := { name := "equals", desc := "(Ljava/lang/Object;)Z", sig := { parameters := [(.object "java/lang/Object")], returnType := some .boolean }, accessFlags := 1, code := some k7c2 }
def k7c3 : Code := { maxStack := 4, maxLocals := 6, code := jdk_42_method_149_code, exceptionTable := #[], attributes := #[] }
def k7m3 : Method := { name := "<init>", desc := "([CIILjava/lang/Void;)V", sig := { parameters := [(.array .char), .int, .int, (.object "java/lang/Void")], returnType := none }, accessFlags := 2, code := some k7c3 }
/-- java/lang/String -/
def k7 : Class := { plain "java/lang/String" (some 0) with
  accessFlags := 49
  interfaces := #[2, 3, 4, 5, 6]
  cf := some (fileOf pool7 10 #[.nestMembers #[1103]] #[{ accessFlags := 1, nameIndex := 5, descriptorIndex := 6, attributes := #[] }, { accessFlags := 1, nameIndex := 5, descriptorIndex := 1010, attributes := #[] }, { accessFlags := 1, nameIndex := 543, descriptorIndex := 573, attributes := #[] }, { accessFlags := 2, nameIndex := 5, descriptorIndex := 29, attributes := #[] }] 49 2 #[1106, 1108, 575, 1110, 1112] #[{ accessFlags := 18, nameIndex := 13, descriptorIndex := 14, attributes := #[] }, { accessFlags := 18, nameIndex := 17, descriptorIndex := 18, attributes := #[] }, { accessFlags := 2, nameIndex := 21, descriptorIndex := 22, attributes := #[] }, { accessFlags := 2, nameIndex := 25, descriptorIndex := 26, attributes := #[] }, { accessFlags := 26, nameIndex := 1116, descriptorIndex := 1117, attributes := #[] }, { accessFlags := 24, nameIndex := 40, descriptorIndex := 26, attributes := #[] }, { accessFlags := 26, nameIndex := 1101, descriptorIndex := 1102, attributes := #[] }, { accessFlags := 26, nameIndex := 1121, descriptorIndex := 1122, attributes := #[] }, { accessFlags := 25, nameIndex := 599, descriptorIndex := 600, attributes := #[] }, { accessFlags := 24, nameIndex := 1125, descriptorIndex := 18, attributes := #[] }, { accessFlags := 24, nameIndex := 1127, descriptorIndex := 18, attributes := #[] }])
  fields := #[{ name := "value", type := (.array .byte), accessFlags := 18, slot := 0, constantValue := 0 }, { name := "coder", type := .byte, accessFlags := 18, slot := 1, constantValue := 0 }, { name := "hash", type := .int, accessFlags := 2, slot := 2, constantValue := 0 }, { name := "hashIsZero", type := .boolean, accessFlags := 2, slot := 3, constantValue := 0 }, { name := "serialVersionUID", type := .long, accessFlags := 26, slot := 0, constantValue := 0 }, { name := "COMPACT_STRINGS", type := .boolean, accessFlags := 24, slot := 1, constantValue := 0 }, { name := "serialPersistentFields", type := (.array (.object "java/io/ObjectStreamField")), accessFlags := 26, slot := 2, constantValue := 0 }, { name := "REPL", type := .char, accessFlags := 26, slot := 3, constantValue := 0 }, { name := "CASE_INSENSITIVE_ORDER", type := (.object "java/util/Comparator"), accessFlags := 25, slot := 4, constantValue := 0 }, { name := "LATIN1", type := .byte, accessFlags := 24, slot := 5, constantValue := 0 }, { name := "UTF16", type := .byte, accessFlags := 24, slot := 6, constantValue := 0 }]
  methods := #[k7m0, k7m1, k7m2, k7m3]
  instanceTypes := #[(.array .byte), .byte, .int, .boolean]
  staticTypes := #[.long, .boolean, (.array (.object "java/io/ObjectStreamField")), .char, (.object "java/util/Comparator"), .byte, .byte]
  resolved := Array.replicate 1451 none
  statics := some 0 }

def pool8 : Array CpInfo := pool [(1, .class_ 2), (0, u "com/example/casemax/casemax/xadd/Decision"), (0, .class_ 4), (0, u "java/lang/Object")] 14

/-- com/example/casemax/casemax/xadd/Decision -/
def k8 : Class := { plain "com/example/casemax/casemax/xadd/Decision" (some 0) with
  accessFlags := 1537
  interfaces := #[]
  cf := some (fileOf pool8 1 #[] #[] 1537 3 #[] #[])
  fields := #[]
  methods := #[]
  instanceTypes := #[]
  staticTypes := #[]
  resolved := Array.replicate 19 none
  statics := none }

def pool9 : Array CpInfo := pool [(1, .methodref 2 3), (0, .class_ 4), (0, .nameAndType 5 6), (0, u "java/lang/Object"), (0, u "<init>"), (0, u "()V"), (0, .fieldref 8 9), (0, .class_ 10), (0, .nameAndType 11 12), (0, u "com/example/casemax/casemax/xadd/BooleanVariable"), (0, u "name"), (0, u "Ljava/lang/String;"), (13, .nameAndType 27 28), (0, u "equals"), (0, u "(Ljava/lang/Object;)Z"), (6, .class_ 37), (1, u "java/lang/String"), (8, u "(Ljava/lang/String;)V"), (6, .methodref 35 26), (4, .class_ 59), (0, u "com/example/casemax/casemax/xadd/Decision")] 29

def k9c0 : Code := { maxStack := 2, maxLocals := 2, code := prog_38_method_1_code, exceptionTable := #[], attributes := #[] }
def k9m0 : Method := { name := "<init>", desc := "(Ljava/lang/String;)V", sig := { parameters := [(.object "java/lang/String")], returnType := none }, accessFlags := 0, code := some k9c0 }
def k9c1 : Code := { maxStack := 2, maxLocals := 3, code := prog_38_method_5_code, exceptionTable := #[], attributes := #[] }
def k9m1 : Method := { name := "equals", desc := "(Ljava/lang/Object;)Z", sig := { parameters := [(.object "java/lang/Object")], returnType := some .boolean }, accessFlags := 1, code := some k9c1 }
/-- com/example/casemax/casemax/xadd/BooleanVariable -/
def k9 : Class := { plain "com/example/casemax/casemax/xadd/BooleanVariable" (some 0) with
  accessFlags := 49
  interfaces := #[8]
  cf := some (fileOf pool9 8 #[] #[{ accessFlags := 0, nameIndex := 5, descriptorIndex := 46, attributes := #[] }, { accessFlags := 1, nameIndex := 27, descriptorIndex := 28, attributes := #[] }] 49 2 #[58] #[{ accessFlags := 18, nameIndex := 11, descriptorIndex := 12, attributes := #[] }])
  fields := #[{ name := "name", type := (.object "java/lang/String"), accessFlags := 18, slot := 0, constantValue := 0 }]
  methods := #[k9m0, k9m1]
  instanceTypes := #[(.object "java/lang/String")]
  staticTypes := #[]
  resolved := Array.replicate 89 none
  statics := none }

def pool10 : Array CpInfo := pool [(4, .class_ 6), (1, u "java/lang/Object"), (0, u "<init>"), (0, u "()V"), (5, .class_ 16), (1, u "java/lang/StringLatin1"), (104, u "$assertionsDisabled"), (0, u "Z"), (98, .class_ 223), (1, u "java/lang/StringLatin1$LinesSpliterator"), (57, u "equals"), (0, u "([B[B)Z"), (107, .class_ 391), (0, u "java/lang/StringLatin1$CharsSpliterator")] 3

def k10m0 : Method := { name := "<init>", desc := "()V", sig := { parameters := [], returnType := none }, accessFlags := 0, code := none }
def k10c1 : Code := { maxStack := 3, maxLocals := 3, code := jdk_43_method_13_code, exceptionTable := #[], attributes := #[] }
def k10m1 : Method := { name := "equals", desc := "([B[B)Z", sig := { parameters := [(.array .byte), (.array .byte)], returnType := some .boolean }, accessFlags := 9, code := some k10c1 }
/-- java/lang/StringLatin1 -/
def k10 : Class := { plain "java/lang/StringLatin1" (some 0) with
  accessFlags := 48
  interfaces := #[]
  cf := some (fileOf pool10 14 #[.nestMembers #[390, 221]] #[{ accessFlags := 0, nameIndex := 7, descriptorIndex := 8, attributes := #[] }, { accessFlags := 9, nameIndex := 281, descriptorIndex := 282, attributes := #[] }] 48 4 #[] #[{ accessFlags := 4120, nameIndex := 121, descriptorIndex := 122, attributes := #[] }])
  fields := #[{ name := "$assertionsDisabled", type := .boolean, accessFlags := 4120, slot := 0, constantValue := 0 }]
  methods := #[k10m0, k10m1]
  instanceTypes := #[]
  staticTypes := #[.boolean]
  resolved := Array.replicate 395 none
  statics := none }

def pool11 : Array CpInfo := pool [(6, .class_ 8), (1, u "java/lang/Object"), (0, u "<init>"), (0, u "()V"), (1, .class_ 14), (1, u "java/lang/StringUTF16"), (31, u "$assertionsDisabled"), (0, u "Z"), (13, u "HI_BYTE_SHIFT"), (0, u "I"), (2, u "LO_BYTE_SHIFT"), (49, .methodref 12 116), (0, .nameAndType 117 118), (0, u "compress"), (0, u "([CI[BII)I"), (3, u "([CII)[B"), (138, u "coderFromArrayLen"), (0, u "([BI)B"), (106, .class_ 371), (1, u "java/lang/StringUTF16$LinesSpliterator"), (58, u "MAX_LENGTH"), (196, .class_ 628), (0, u "java/lang/StringUTF16$CodePointsSpliterator"), (0, .class_ 630), (0, u "java/lang/StringUTF16$CharsSpliterator")] 4

def k11m0 : Method := { name := "<init>", desc := "()V", sig := { parameters := [], returnType := none }, accessFlags := 0, code := none }
def k11c1 : Code := { maxStack := 2, maxLocals := 2, code := jdk_52_method_15_code, exceptionTable := #[], attributes := #[] }
def k11m1 : Method := { name := "coderFromArrayLen", desc := "([BI)B", sig := { parameters := [(.array .byte), .int], returnType := some .byte }, accessFlags := 8, code := some k11c1 }
def k11c2 : Code := { maxStack := 5, maxLocals := 6, code := jdk_52_method_16_code, exceptionTable := #[], attributes := #[] }
def k11m2 : Method := { name := "compress", desc := "([CII)[B", sig := { parameters := [(.array .char), .int, .int], returnType := some (.array .byte) }, accessFlags := 9, code := some k11c2 }
def k11c3 : Code := { maxStack := 3, maxLocals := 7, code := jdk_52_method_21_code, exceptionTable := #[], attributes := #[] }
def k11m3 : Method := { name := "compress", desc := "([CI[BII)I", sig := { parameters := [(.array .char), .int, (.array .byte), .int, .int], returnType := some .int }, accessFlags := 9, code := some k11c3 }
/-- java/lang/StringUTF16 -/
def k11 : Class := { plain "java/lang/StringUTF16" (some 0) with
  accessFlags := 48
  interfaces := #[]
  cf := some (fileOf pool11 12 #[.nestMembers #[627, 629, 369]] #[{ accessFlags := 0, nameIndex := 9, descriptorIndex := 10, attributes := #[] }, { accessFlags := 8, nameIndex := 261, descriptorIndex := 262, attributes := #[] }, { accessFlags := 9, nameIndex := 117, descriptorIndex := 122, attributes := #[] }, { accessFlags := 9, nameIndex := 117, descriptorIndex := 118, attributes := #[] }] 48 6 #[] #[{ accessFlags := 26, nameIndex := 61, descriptorIndex := 62, attributes := #[] }, { accessFlags := 26, nameIndex := 65, descriptorIndex := 62, attributes := #[] }, { accessFlags := 24, nameIndex := 430, descriptorIndex := 62, attributes := #[] }, { accessFlags := 4120, nameIndex := 46, descriptorIndex := 47, attributes := #[] }])
  fields := #[{ name := "HI_BYTE_SHIFT", type := .int, accessFlags := 26, slot := 0, constantValue := 0 }, { name := "LO_BYTE_SHIFT", type := .int, accessFlags := 26, slot := 1, constantValue := 0 }, { name := "MAX_LENGTH", type := .int, accessFlags := 24, slot := 2, constantValue := 0 }, { name := "$assertionsDisabled", type := .boolean, accessFlags := 4120, slot := 3, constantValue := 0 }]
  methods := #[k11m0, k11m1, k11m2, k11m3]
  instanceTypes := #[]
  staticTypes := #[.int, .int, .int, .boolean]
  resolved := Array.replicate 635 none
  statics := none }

def pool12 : Array CpInfo := pool [(2, .class_ 4), (1, u "java/lang/Object"), (0, u "<init>"), (0, u "()V"), (17, .class_ 26), (1, u "jdk/internal/util/Preconditions"), (28, .class_ 56), (0, u "jdk/internal/util/Preconditions$4"), (57, .class_ 115), (0, u "jdk/internal/util/Preconditions$1"), (7, u "SIOOBE_FORMATTER"), (0, u "Ljava/util/function/BiFunction;"), (0, .class_ 126), (0, u "jdk/internal/util/Preconditions$2"), (3, u "AIOOBE_FORMATTER"), (0, .class_ 132), (0, u "jdk/internal/util/Preconditions$3"), (3, u "IOOBE_FORMATTER")] 57

def k12m0 : Method := { name := "<init>", desc := "()V", sig := { parameters := [], returnType := none }, accessFlags := 1, code := none }
/-- jdk/internal/util/Preconditions -/
def k12 : Class := { plain "jdk/internal/util/Preconditions" (some 0) with
  accessFlags := 33
  interfaces := #[]
  cf := some (fileOf pool12 24 #[.nestMembers #[55, 131, 125, 114]] #[{ accessFlags := 1, nameIndex := 5, descriptorIndex := 6, attributes := #[] }] 33 2 #[] #[{ accessFlags := 25, nameIndex := 123, descriptorIndex := 124, attributes := #[] }, { accessFlags := 25, nameIndex := 130, descriptorIndex := 124, attributes := #[] }, { accessFlags := 25, nameIndex := 136, descriptorIndex := 124, attributes := #[] }])
  fields := #[{ name := "SIOOBE_FORMATTER", type := (.object "java/util/function/BiFunction"), accessFlags := 25, slot := 0, constantValue := 0 }, { name := "AIOOBE_FORMATTER", type := (.object "java/util/function/BiFunction"), accessFlags := 25, slot := 1, constantValue := 0 }, { name := "IOOBE_FORMATTER", type := (.object "java/util/function/BiFunction"), accessFlags := 25, slot := 2, constantValue := 0 }]
  methods := #[k12m0]
  instanceTypes := #[]
  staticTypes := #[(.object "java/util/function/BiFunction"), (.object "java/util/function/BiFunction"), (.object "java/util/function/BiFunction")]
  resolved := Array.replicate 194 none
  statics := some 1 }

def pool13 : Array CpInfo := pool [(9, u "<init>"), (6, .class_ 18), (1, u "java/lang/Object"), (0, u "()V"), (1, .class_ 23), (1, u "jdk/internal/util/ArraysSupport"), (0, u "LOG2_ARRAY_LONG_INDEX_SCALE"), (0, u "I"), (2, u "U"), (0, u "Ljdk/internal/misc/Unsafe;"), (8, u "BIG_ENDIAN"), (0, u "Z"), (8, u "LOG2_BYTE_BIT_SIZE"), (4, u "LOG2_ARRAY_INT_INDEX_SCALE"), (54, u "JLA"), (0, u "Ljdk/internal/access/JavaLangAccess;"), (11, u "LOG2_ARRAY_BOOLEAN_INDEX_SCALE"), (9, u "LOG2_ARRAY_BYTE_INDEX_SCALE"), (5, u "LOG2_ARRAY_CHAR_INDEX_SCALE"), (5, u "LOG2_ARRAY_SHORT_INDEX_SCALE"), (18, u "LOG2_ARRAY_FLOAT_INDEX_SCALE"), (24, u "LOG2_ARRAY_DOUBLE_INDEX_SCALE"), (89, u "T_BOOLEAN"), (2, u "T_CHAR"), (1, u "T_FLOAT"), (1, u "T_DOUBLE"), (1, u "T_BYTE"), (1, u "T_SHORT"), (1, u "T_INT"), (1, u "T_LONG"), (1, u "SOFT_MAX_ARRAY_LENGTH")] 83

def k13m0 : Method := { name := "<init>", desc := "()V", sig := { parameters := [], returnType := none }, accessFlags := 2, code := none }
/-- jdk/internal/util/ArraysSupport -/
def k13 : Class := { plain "jdk/internal/util/ArraysSupport" (some 0) with
  accessFlags := 33
  interfaces := #[]
  cf := some (fileOf pool13 21 #[] #[{ accessFlags := 2, nameIndex := 9, descriptorIndex := 19, attributes := #[] }] 33 16 #[] #[{ accessFlags := 24, nameIndex := 28, descriptorIndex := 29, attributes := #[] }, { accessFlags := 26, nameIndex := 38, descriptorIndex := 39, attributes := #[] }, { accessFlags := 25, nameIndex := 121, descriptorIndex := 25, attributes := #[] }, { accessFlags := 25, nameIndex := 131, descriptorIndex := 25, attributes := #[] }, { accessFlags := 25, nameIndex := 137, descriptorIndex := 25, attributes := #[] }, { accessFlags := 25, nameIndex := 143, descriptorIndex := 25, attributes := #[] }, { accessFlags := 25, nameIndex := 53, descriptorIndex := 25, attributes := #[] }, { accessFlags := 25, nameIndex := 24, descriptorIndex := 25, attributes := #[] }, { accessFlags := 25, nameIndex := 162, descriptorIndex := 25, attributes := #[] }, { accessFlags := 25, nameIndex := 187, descriptorIndex := 25, attributes := #[] }, { accessFlags := 26, nameIndex := 48, descriptorIndex := 25, attributes := #[] }, { accessFlags := 25, nameIndex := 277, descriptorIndex := 25, attributes := #[] }, { accessFlags := 25, nameIndex := 280, descriptorIndex := 25, attributes := #[] }, { accessFlags := 25, nameIndex := 282, descriptorIndex := 25, attributes := #[] }, { accessFlags := 25, nameIndex := 284, descriptorIndex := 25, attributes := #[] }, { accessFlags := 25, nameIndex := 286, descriptorIndex := 25, attributes := #[] }, { accessFlags := 25, nameIndex := 288, descriptorIndex := 25, attributes := #[] }, { accessFlags := 25, nameIndex := 290, descriptorIndex := 25, attributes := #[] }, { accessFlags := 25, nameIndex := 292, descriptorIndex := 25, attributes := #[] }, { accessFlags := 26, nameIndex := 108, descriptorIndex := 109, attributes := #[] }, { accessFlags := 25, nameIndex := 294, descriptorIndex := 25, attributes := #[] }])
  fields := #[{ name := "U", type := (.object "jdk/internal/misc/Unsafe"), accessFlags := 24, slot := 0, constantValue := 0 }, { name := "BIG_ENDIAN", type := .boolean, accessFlags := 26, slot := 1, constantValue := 0 }, { name := "LOG2_ARRAY_BOOLEAN_INDEX_SCALE", type := .int, accessFlags := 25, slot := 2, constantValue := 0 }, { name := "LOG2_ARRAY_BYTE_INDEX_SCALE", type := .int, accessFlags := 25, slot := 3, constantValue := 0 }, { name := "LOG2_ARRAY_CHAR_INDEX_SCALE", type := .int, accessFlags := 25, slot := 4, constantValue := 0 }, { name := "LOG2_ARRAY_SHORT_INDEX_SCALE", type := .int, accessFlags := 25, slot := 5, constantValue := 0 }, { name := "LOG2_ARRAY_INT_INDEX_SCALE", type := .int, accessFlags := 25, slot := 6, constantValue := 0 }, { name := "LOG2_ARRAY_LONG_INDEX_SCALE", type := .int, accessFlags := 25, slot := 7, constantValue := 0 }, { name := "LOG2_ARRAY_FLOAT_INDEX_SCALE", type := .int, accessFlags := 25, slot := 8, constantValue := 0 }, { name := "LOG2_ARRAY_DOUBLE_INDEX_SCALE", type := .int, accessFlags := 25, slot := 9, constantValue := 0 }, { name := "LOG2_BYTE_BIT_SIZE", type := .int, accessFlags := 26, slot := 10, constantValue := 0 }, { name := "T_BOOLEAN", type := .int, accessFlags := 25, slot := 11, constantValue := 0 }, { name := "T_CHAR", type := .int, accessFlags := 25, slot := 12, constantValue := 0 }, { name := "T_FLOAT", type := .int, accessFlags := 25, slot := 13, constantValue := 0 }, { name := "T_DOUBLE", type := .int, accessFlags := 25, slot := 14, constantValue := 0 }, { name := "T_BYTE", type := .int, accessFlags := 25, slot := 15, constantValue := 0 }, { name := "T_SHORT", type := .int, accessFlags := 25, slot := 16, constantValue := 0 }, { name := "T_INT", type := .int, accessFlags := 25, slot := 17, constantValue := 0 }, { name := "T_LONG", type := .int, accessFlags := 25, slot := 18, constantValue := 0 }, { name := "JLA", type := (.object "jdk/internal/access/JavaLangAccess"), accessFlags := 26, slot := 19, constantValue := 0 }, { name := "SOFT_MAX_ARRAY_LENGTH", type := .int, accessFlags := 25, slot := 20, constantValue := 0 }]
  methods := #[k13m0]
  instanceTypes := #[]
  staticTypes := #[(.object "jdk/internal/misc/Unsafe"), .boolean, .int, .int, .int, .int, .int, .int, .int, .int, .int, .int, .int, .int, .int, .int, .int, .int, .int, (.object "jdk/internal/access/JavaLangAccess"), .int]
  resolved := Array.replicate 378 none
  statics := none }

def pool14 : Array CpInfo := pool [(1, u "java/lang/Cloneable"), (0, .class_ 1), (0, u "java/lang/Object"), (0, .class_ 3)] 3

/-- java/lang/Cloneable -/
def k14 : Class := { plain "java/lang/Cloneable" (some 0) with
  accessFlags := 1537
  interfaces := #[]
  cf := some (fileOf pool14 2 #[] #[] 1537 4 #[] #[])
  fields := #[]
  methods := #[]
  instanceTypes := #[]
  staticTypes := #[]
  resolved := Array.replicate 8 none
  statics := none }

/-- the primitive byte -/
def k15 : Class := { plain "byte" none with kind := .primitive 'B', accessFlags := 0x411 }
/-- [B -/
def k16 : Class := { plain "[B" (some 0) with kind := .array 15 .byte, interfaces := #[14, 2], accessFlags := 1041 }

/-- the primitive char -/
def k17 : Class := { plain "char" none with kind := .primitive 'C', accessFlags := 0x411 }
/-- [C -/
def k18 : Class := { plain "[C" (some 0) with kind := .array 17 .char, interfaces := #[14, 2], accessFlags := 1041 }

/-- the primitive int -/
def k19 : Class := { plain "int" none with kind := .primitive 'I', accessFlags := 0x411 }
/-- [I -/
def k20 : Class := { plain "[I" (some 0) with kind := .array 19 .int, interfaces := #[14, 2], accessFlags := 1041 }

def heap : Heap := #[{ cls := 7, slots := #[.long 0, .int 1, .null, .int 0, .null, .int 0, .int 0], vm := .statics 7 },
  { cls := 12, slots := #[.null, .null, .null], vm := .statics 12 }]
def classes : Array Class := #[k0, k1, k2, k3, k4, k5, k6, k7, k8, k9, k10, k11, k12, k13, k14, k15, k16, k17, k18, k19, k20]
def interned : List (Array UInt16 × Addr) := []
def slotsUsed : Nat := 10
def theMethod : MethodId := ⟨1, 2⟩
def args0 : Array Value := #[.int 5, .int 7, .int 3]
def aboutOver (below : List Frame) : State where
  vm := { classes := classes, interned := interned.toArray }
  heap := heap
  slotsUsed := slotsUsed
  threads := #[{ frames := .invoking theMethod args0 :: below }]
def below0 : List Frame := [.native { method := ⟨0, 0⟩, args := #[] }]
def about1 : State := aboutOver below0
def p0 : Program := .bare "" "" ""
def e0 : Env := launch0.env 0 0 0
theorem w_frames : about1.frames = Frame.invoking theMethod args0 :: below0 := rfl
set_option maxRecDepth 65536 in
theorem w_args : argsFit about1.vm theMethod args0 = true := by decide +kernel
set_option maxRecDepth 65536 in
theorem w_heap : heapFits about1 = true := by decide +kernel
set_option maxRecDepth 65536 in
theorem w_runnable : about1.curStatus? = some .runnable := by decide +kernel
set_option maxRecDepth 65536 in
theorem w_alone : about1.alone = true := by decide +kernel
set_option maxRecDepth 65536 in
theorem w_named : about1.methodNamed? x = some theMethod := by decide +kernel
set_option maxRecDepth 65536 in
theorem w_hears : about1.hears theMethod below0 = true := by decide +kernel
set_option maxRecDepth 65536 in
theorem w_ripe : about1.ripe theMethod args0 below0 = true := by decide +kernel
theorem w_running : about1.status = .running := rfl
set_option maxRecDepth 65536 in
theorem w_room : about1.hasRoom e0.platform room_1 = true :=
  launch0.hasRoom_least _ room_1 (by decide +kernel) (by decide +kernel) (by decide +kernel) (by decide +kernel) (by decide +kernel) (by decide +kernel)
theorem allAtoms_all (ts : List Jvm.Cond) (a : Array Jvm.Value) (st : Jvm.State) : (allAtoms ts).before a st = ts.all (fun c => c.before a st) := by
  induction ts with
  | nil => rfl
  | cons c t ih =>
    show (Jvm.Cond.and c (allAtoms t)).before a st = _
    rw [Jvm.Cond.before_and, ih, List.all_cons]
def words1 : List Jvm.Cond := Jvm.Cond.code x code maxLocals ret :: tables_1
/-- a 'code' word, met by the world's own term for the bytes: nothing is compared byte by byte -/
theorem code_word {y : MethodName} {bytes : ByteArray} {mx : Nat} {rt : Option FieldType} {a : Array Value} {s : State} {m : MethodId} {meth : Method} {c : Code} (h1 : s.methodNamed? y = some m) (h2 : s.vm.method? m = some meth) (h3 : meth.code = some c) (h4 : c.code = bytes)
    (h5 : (c.maxLocals == mx && c.exceptionTable.isEmpty && decide (c.maxStack ≤ mostOperands) && decide (meth.sig.returnType = rt) && !meth.locks && decide (parseMethodDescriptor y.desc = some meth.sig)) = true) : (Jvm.Cond.code y bytes mx rt).before a s = true := by
  simp only [Bool.and_eq_true, beq_iff_eq, Bool.not_eq_true', decide_eq_true_eq] at h5
  obtain ⟨⟨⟨⟨⟨g1, g2⟩, g3⟩, g4⟩, g5⟩, g6⟩ := h5
  simp [Cond.before, Cond.holds, Cond.value, h1, h2, h3, h4, g1, g2, g3, g4, g5, g6]
def isCode : Jvm.Cond → Bool
  | .code _ _ _ _ => true
  | _ => false
theorem all_split {L : List Jvm.Cond} {P : Jvm.Cond → Bool} (h1 : L.all (fun c => isCode c || P c) = true) (h2 : ∀ c ∈ L.filter isCode, P c = true) : L.all P = true := by
  refine List.all_eq_true.mpr fun c hc => ?_
  have h := List.all_eq_true.mp h1 c hc
  rcases Bool.eq_false_or_eq_true (isCode c) with hi | hi
  · exact h2 c (List.mem_filter.mpr ⟨hc, hi⟩)
  · simpa [hi] using h
set_option maxRecDepth 65536 in
theorem w_c0 : (Jvm.Cond.code x code maxLocals ret).before args0 about1 = true := code_word (m := ⟨1, 2⟩) (meth := k1m2) (c := k1c2) (by decide +kernel) rfl rfl rfl (by decide +kernel)
set_option maxRecDepth 65536 in
theorem w_c1 : (Jvm.Cond.code ({ cls := "com/example/casemax/casemax/xadd/BooleanVariableEqualsPinLaw", name := "make", desc := "(ICC)Ljava/lang/String;" } : Jvm.MethodName) method_2_code (3 : Nat) (Option.some (Jvm.ClassFile.FieldType.object "java/lang/String"))).before args0 about1 = true := code_word (m := ⟨1, 1⟩) (meth := k1m1) (c := k1c1) (by decide +kernel) rfl rfl rfl (by decide +kernel)
set_option maxRecDepth 65536 in
theorem w_c2 : (Jvm.Cond.code ({ cls := "java/lang/String", name := "<init>", desc := "([C)V" } : Jvm.MethodName) jdk_42_method_3_code (2 : Nat) (Option.none : Option Jvm.ClassFile.FieldType)).before args0 about1 = true := code_word (m := ⟨7, 1⟩) (meth := k7m1) (c := k7c1) (by decide +kernel) rfl rfl rfl (by decide +kernel)
set_option maxRecDepth 65536 in
theorem w_c3 : (Jvm.Cond.code ({ cls := "java/lang/String", name := "<init>", desc := "([CIILjava/lang/Void;)V" } : Jvm.MethodName) jdk_42_method_149_code (6 : Nat) (Option.none : Option Jvm.ClassFile.FieldType)).before args0 about1 = true := code_word (m := ⟨7, 3⟩) (meth := k7m3) (c := k7c3) (by decide +kernel) rfl rfl rfl (by decide +kernel)
set_option maxRecDepth 65536 in
theorem w_c4 : (Jvm.Cond.code ({ cls := "java/lang/Object", name := "<init>", desc := "()V" } : Jvm.MethodName) object_method_1_code (1 : Nat) (Option.none : Option Jvm.ClassFile.FieldType)).before args0 about1 = true := code_word (m := ⟨0, 0⟩) (meth := k0m0) (c := k0c0) (by decide +kernel) rfl rfl rfl (by decide +kernel)
set_option maxRecDepth 65536 in
theorem w_c5 : (Jvm.Cond.code ({ cls := "com/example/casemax/casemax/xadd/BooleanVariable", name := "<init>", desc := "(Ljava/lang/String;)V" } : Jvm.MethodName) prog_38_method_1_code (2 : Nat) (Option.none : Option Jvm.ClassFile.FieldType)).before args0 about1 = true := code_word (m := ⟨9, 0⟩) (meth := k9m0) (c := k9c0) (by decide +kernel) rfl rfl rfl (by decide +kernel)
set_option maxRecDepth 65536 in
theorem w_c6 : (Jvm.Cond.code ({ cls := "com/example/casemax/casemax/xadd/BooleanVariable", name := "equals", desc := "(Ljava/lang/Object;)Z" } : Jvm.MethodName) prog_38_method_5_code (3 : Nat) (Option.some Jvm.ClassFile.FieldType.boolean)).before args0 about1 = true := code_word (m := ⟨9, 1⟩) (meth := k9m1) (c := k9c1) (by decide +kernel) rfl rfl rfl (by decide +kernel)
set_option maxRecDepth 65536 in
theorem w_c7 : (Jvm.Cond.code ({ cls := "java/lang/String", name := "equals", desc := "(Ljava/lang/Object;)Z" } : Jvm.MethodName) jdk_42_method_66_code (3 : Nat) (Option.some Jvm.ClassFile.FieldType.boolean)).before args0 about1 = true := code_word (m := ⟨7, 2⟩) (meth := k7m2) (c := k7c2) (by decide +kernel) rfl rfl rfl (by decide +kernel)
set_option maxRecDepth 65536 in
theorem w_c8 : (Jvm.Cond.code ({ cls := "java/lang/StringLatin1", name := "equals", desc := "([B[B)Z" } : Jvm.MethodName) jdk_43_method_13_code (3 : Nat) (Option.some Jvm.ClassFile.FieldType.boolean)).before args0 about1 = true := code_word (m := ⟨10, 1⟩) (meth := k10m1) (c := k10c1) (by decide +kernel) rfl rfl rfl (by decide +kernel)
set_option maxRecDepth 65536 in
theorem w_c9 : (Jvm.Cond.code ({ cls := "java/lang/StringUTF16", name := "compress", desc := "([CII)[B" } : Jvm.MethodName) jdk_52_method_16_code (6 : Nat) (Option.some (Jvm.ClassFile.FieldType.array Jvm.ClassFile.FieldType.byte))).before args0 about1 = true := code_word (m := ⟨11, 2⟩) (meth := k11m2) (c := k11c2) (by decide +kernel) rfl rfl rfl (by decide +kernel)
set_option maxRecDepth 65536 in
theorem w_c10 : (Jvm.Cond.code ({ cls := "java/lang/StringUTF16", name := "compress", desc := "([CI[BII)I" } : Jvm.MethodName) jdk_52_method_21_code (7 : Nat) (Option.some Jvm.ClassFile.FieldType.int)).before args0 about1 = true := code_word (m := ⟨11, 3⟩) (meth := k11m3) (c := k11c3) (by decide +kernel) rfl rfl rfl (by decide +kernel)
set_option maxRecDepth 65536 in
theorem w_c11 : (Jvm.Cond.code ({ cls := "java/lang/StringUTF16", name := "coderFromArrayLen", desc := "([BI)B" } : Jvm.MethodName) jdk_52_method_15_code (2 : Nat) (Option.some Jvm.ClassFile.FieldType.byte)).before args0 about1 = true := code_word (m := ⟨11, 1⟩) (meth := k11m1) (c := k11c1) (by decide +kernel) rfl rfl rfl (by decide +kernel)
def codes1 : List Jvm.Cond := [Jvm.Cond.code x code maxLocals ret, Jvm.Cond.code ({ cls := "com/example/casemax/casemax/xadd/BooleanVariableEqualsPinLaw", name := "make", desc := "(ICC)Ljava/lang/String;" } : Jvm.MethodName) method_2_code (3 : Nat) (Option.some (Jvm.ClassFile.FieldType.object "java/lang/String")), Jvm.Cond.code ({ cls := "java/lang/String", name := "<init>", desc := "([C)V" } : Jvm.MethodName) jdk_42_method_3_code (2 : Nat) (Option.none : Option Jvm.ClassFile.FieldType), Jvm.Cond.code ({ cls := "java/lang/String", name := "<init>", desc := "([CIILjava/lang/Void;)V" } : Jvm.MethodName) jdk_42_method_149_code (6 : Nat) (Option.none : Option Jvm.ClassFile.FieldType), Jvm.Cond.code ({ cls := "java/lang/Object", name := "<init>", desc := "()V" } : Jvm.MethodName) object_method_1_code (1 : Nat) (Option.none : Option Jvm.ClassFile.FieldType), Jvm.Cond.code ({ cls := "com/example/casemax/casemax/xadd/BooleanVariable", name := "<init>", desc := "(Ljava/lang/String;)V" } : Jvm.MethodName) prog_38_method_1_code (2 : Nat) (Option.none : Option Jvm.ClassFile.FieldType), Jvm.Cond.code ({ cls := "com/example/casemax/casemax/xadd/BooleanVariable", name := "equals", desc := "(Ljava/lang/Object;)Z" } : Jvm.MethodName) prog_38_method_5_code (3 : Nat) (Option.some Jvm.ClassFile.FieldType.boolean), Jvm.Cond.code ({ cls := "java/lang/String", name := "equals", desc := "(Ljava/lang/Object;)Z" } : Jvm.MethodName) jdk_42_method_66_code (3 : Nat) (Option.some Jvm.ClassFile.FieldType.boolean), Jvm.Cond.code ({ cls := "java/lang/StringLatin1", name := "equals", desc := "([B[B)Z" } : Jvm.MethodName) jdk_43_method_13_code (3 : Nat) (Option.some Jvm.ClassFile.FieldType.boolean), Jvm.Cond.code ({ cls := "java/lang/StringUTF16", name := "compress", desc := "([CII)[B" } : Jvm.MethodName) jdk_52_method_16_code (6 : Nat) (Option.some (Jvm.ClassFile.FieldType.array Jvm.ClassFile.FieldType.byte)), Jvm.Cond.code ({ cls := "java/lang/StringUTF16", name := "compress", desc := "([CI[BII)I" } : Jvm.MethodName) jdk_52_method_21_code (7 : Nat) (Option.some Jvm.ClassFile.FieldType.int), Jvm.Cond.code ({ cls := "java/lang/StringUTF16", name := "coderFromArrayLen", desc := "([BI)B" } : Jvm.MethodName) jdk_52_method_15_code (2 : Nat) (Option.some Jvm.ClassFile.FieldType.byte)]
set_option maxRecDepth 65536 in
theorem codes_eq : words1.filter isCode = codes1 := rfl
theorem w_codes : ∀ c ∈ words1.filter isCode, c.before args0 about1 = true := by
  rw [codes_eq]
  intro c hc
  simp only [codes1, List.mem_cons, List.not_mem_nil, or_false] at hc
  rcases hc with rfl | rfl | rfl | rfl | rfl | rfl | rfl | rfl | rfl | rfl | rfl | rfl
  · exact w_c0
  · exact w_c1
  · exact w_c2
  · exact w_c3
  · exact w_c4
  · exact w_c5
  · exact w_c6
  · exact w_c7
  · exact w_c8
  · exact w_c9
  · exact w_c10
  · exact w_c11
set_option maxRecDepth 65536 in
theorem w_t1 : (words1.take 24).all (fun c => isCode c || c.before args0 about1) = true := by decide +kernel
set_option maxRecDepth 65536 in
theorem w_t2 : ((words1.drop 24).take 24).all (fun c => isCode c || c.before args0 about1) = true := by decide +kernel
set_option maxRecDepth 65536 in
theorem w_t3 : ((words1.drop 24).drop 24).all (fun c => isCode c || c.before args0 about1) = true := by decide +kernel
theorem w_tables : (allAtoms (Jvm.Cond.code x code maxLocals ret :: tables_1)).before args0 about1 = true := by
  rw [allAtoms_all]
  show words1.all (fun c => c.before args0 about1) = true
  refine all_split ?_ w_codes
  rw [← List.take_append_drop 24 words1, List.all_append, w_t1, ← List.take_append_drop 24 (words1.drop 24), List.all_append, w_t2, w_t3]
  rfl
set_option maxRecDepth 65536 in
theorem w_rest : rest_1_c.before args0 about1 = true := by decide +kernel
set_option maxRecDepth 65536 in
theorem w_case : (Jvm.Cond.and given_1 narrow_1).before args0 about1 = true := by decide +kernel
set_option maxRecDepth 65536 in
theorem w_consts : constsHeld consts_1 about1 := Jvm.Lit.constsHeldB_iff.mp (by decide +kernel)
theorem w_applies : (headSpec (Jvm.Cond.code x code maxLocals ret :: tables_1) room_1).applies x e0.platform about1 = true :=
  (Spec.applies_iff w_frames).mpr ⟨w_running, w_runnable, w_alone, w_named, w_hears, w_ripe, w_room, w_tables⟩
theorem atStart : AtStart classFile x code maxLocals ret World_1 tables_1 room_1 Calls_1 rest_1 Pre_1 launch0 p0 e0 about1 theMethod args0 below0 :=
  ⟨lists_1, trivial, launch0.admits_env _ _ _, launch0.least_env, fairChoices_fair.cas, fairChoices_fair.clock, w_frames, w_args, w_heap, w_applies, ⟨w_consts, trivial⟩, w_rest, w_case⟩
end start1
theorem witness_1 : WitnessClaimed_1 := ⟨start1.p0, start1.e0, start1.about1, start1.theMethod, start1.args0, start1.below0, start1.atStart⟩
end Jvm.Pilot.@@N@@
