import JvmDerived
import JvmDerived.Pilot.@@N@@Statement
import JvmDerived.Pilot.@@N@@Code
set_option linter.unusedVariables false
set_option linter.unusedSimpArgs false
/- laws to paste: Road.backV, Road.eqW, Road.empW, Road.codOf (cut by pick.py; bodies as the Statement names them) -/
namespace Jvm.Pilot.@@N@@
namespace StrChars
open Jvm Sem ClassFile Op Lib Jvm.Stand Jvm.Free.XT Jvm.Free.ALB Jvm.Free.JM Jvm.Free
open Jvm.Lib.Cold (StaticIs)
/-- a char array whose places are chars -/
def Ch (a : Addr) (A : Cell) (U : State) : Prop := Arr .char a A U ∧ Typed .char A
theorem Ch.mv {a : Addr} {A : Cell} {U U' : State} (h : Ch a A U) (hal : U.vm.Alike U'.vm) (hh : U'.heap = U.heap) : Ch a A U' := ⟨h.1.mv hal hh, h.2⟩
theorem Ch.keep {a : Addr} {A : Cell} {U U' : State} (h : Ch a A U) (hal : U.vm.Alike U'.vm) (hk : U'.heap[a]? = some A) : Ch a A U' := ⟨h.1.keep hal hk, h.2⟩
/-- what place i of a char[]'s cell holds -/
def cv (A : Cell) (i : Nat) : Int32 := match A.slots[i]? with | some (.int x) => x | _ => 0
theorem Ch.get {a : Addr} {A : Cell} {U : State} (h : Ch a A U) {i : Nat} (hi : i < A.slots.size) : A.slots[i]? = some (.int (cv A i)) := by
  have e := Array.getElem?_eq_getElem hi
  have f := h.2 i _ e
  unfold cv; rw [e]
  generalize A.slots[i] = v at f
  cases v <;> simp [fits] at f ⊢
/-- the byte that i2b leaves of a char -/
def lo8 (x : Int32) : Int32 := x.toInt8.toInt32
theorem fits_lo8 (y : Int32) : fits .byte (.int (lo8 y)) = true := by
  have h1 := y.toInt8.le_toInt
  have h2 := y.toInt8.toInt_lt
  simp only [lo8, fits, Bool.and_eq_true, decide_eq_true_eq, Int32.le_iff_toInt_le, Int8.toInt_toInt32, show (-128 : Int32).toInt = -128 from by decide, show (127 : Int32).toInt = 127 from by decide]
  omega
/-- A' is A but that each place j of lo .. hi - 1 holds f j -/
def Laid (A A' : Cell) (lo hi : Nat) (f : Nat → Value) : Prop := A'.cls = A.cls ∧ A'.vm = A.vm ∧ A'.slots.size = A.slots.size ∧ ∀ i, A'.slots[i]? = if lo ≤ i ∧ i < hi then some (f i) else A.slots[i]?
theorem Laid.zero (A : Cell) (lo : Nat) (f : Nat → Value) : Laid A A lo (lo + 0) f := ⟨rfl, rfl, rfl, fun i => by rw [if_neg (by omega)]⟩
theorem Laid.step {A Ak : Cell} {lo k : Nat} {f : Nat → Value} {v : Value} (h : Laid A Ak lo k f) (hlo : lo ≤ k) (hk : k < Ak.slots.size) (hv : v = f k) : Laid A (Ak.setSlot k v) lo (k + 1) f := by
  refine ⟨h.1, h.2.1, by simpa [Cell.setSlot] using h.2.2.1, fun i => ?_⟩
  by_cases e : k = i
  · subst e; rw [Cell.slots_setSlot_self v hk, if_pos (by omega), hv]
  · rw [Cell.slots_setSlot_ne v e, h.2.2.2 i]
    by_cases q : lo ≤ i ∧ i < k
    · rw [if_pos q, if_pos (by omega)]
    · rw [if_neg q, if_neg (by omega)]
def U16 : String := "java/lang/StringUTF16"
namespace Cmp5
def yN : MethodName := ⟨"java/lang/StringUTF16", "compress", "([CI[BII)I"⟩
abbrev yB : ByteArray := jdk_52_method_21_code
theorem d0 : decode yB 0 = .ok (.iconst 0, 1) := by decide +kernel
theorem d1 : decode yB 1 = .ok (.istore 5, 2) := by decide +kernel
theorem d3 : decode yB 3 = .ok (.iload 5, 2) := by decide +kernel
theorem d5 : decode yB 5 = .ok (.iload 4, 2) := by decide +kernel
theorem d7 : decode yB 7 = .ok (.if_icmp (.ge) 37, 3) := by decide +kernel
theorem d10 : decode yB 10 = .ok (.aload_n 0, 1) := by decide +kernel
theorem d11 : decode yB 11 = .ok (.iload_n 1, 1) := by decide +kernel
theorem d12 : decode yB 12 = .ok (.caload, 1) := by decide +kernel
theorem d13 : decode yB 13 = .ok (.istore 6, 2) := by decide +kernel
theorem d15 : decode yB 15 = .ok (.iload 6, 2) := by decide +kernel
theorem d17 : decode yB 17 = .ok (.sipush 255, 3) := by decide +kernel
theorem d20 : decode yB 20 = .ok (.if_icmp (.le) 6, 3) := by decide +kernel
theorem d26 : decode yB 26 = .ok (.aload_n 2, 1) := by decide +kernel
theorem d27 : decode yB 27 = .ok (.iload_n 3, 1) := by decide +kernel
theorem d28 : decode yB 28 = .ok (.iload 6, 2) := by decide +kernel
theorem d30 : decode yB 30 = .ok (.i2b, 1) := by decide +kernel
theorem d31 : decode yB 31 = .ok (.bastore, 1) := by decide +kernel
theorem d32 : decode yB 32 = .ok (.iinc 1 1, 3) := by decide +kernel
theorem d35 : decode yB 35 = .ok (.iinc 3 1, 3) := by decide +kernel
theorem d38 : decode yB 38 = .ok (.iinc 5 1, 3) := by decide +kernel
theorem d41 : decode yB 41 = .ok (.goto (-38), 3) := by decide +kernel
theorem d44 : decode yB 44 = .ok (.iload 4, 2) := by decide +kernel
theorem d46 : decode yB 46 = .ok (.ireturn, 1) := by decide +kernel
def site : List Cond := []
def tab : Cond := tabOf yN yB 7 (some .int) site
def P (b : Addr) (A : Cell) (d : Addr) (B : Cell) (o q len : Nat) (args : Array Value) (s : State) : Prop := args = #[.ref b, .int (Int32.ofNat o), .ref d, .int (Int32.ofNat q), .int (Int32.ofNat len)] ∧ Ch b A s ∧ Arr .byte d B s ∧ b ≠ d ∧ o + len ≤ A.slots.size ∧ q + len ≤ B.slots.size ∧ ∀ i, i < len → ¬ 255 < cv A (o + i)
def E (b : Addr) (A : Cell) (d : Addr) (B : Cell) (o q len : Nat) (r : Option Value) (s u : State) : Prop := r = some (.int (Int32.ofNat len)) ∧ ∃ B', Put d B' s u ∧ Laid B B' q (q + len) (fun j => Value.int (lo8 (cv A (o + (j - q)))))
/-- no char of the range above 255: len; the places written hold each char's low byte -/
theorem law (l : Launch) (b : Addr) (A : Cell) (d : Addr) (B : Cell) (o q len : Nat) : Law l yN 5 5 0 0 yB 7 (some .int) site (P b A d B o q len) (E b A d B o q len) (copyLocs d q len) 0 0 := by
  refine Law.of_walk (plainFor_of_name (by decide +kernel)) (by decide +kernel) (by decide +kernel) (by decide) (fun _ _ h => by rw [h.1]; rfl) (fun _ U U' hal hh h => ⟨h.1, h.2.1.mv hal hh, h.2.2.1.mv hal hh, h.2.2.2⟩) (fun r U U' V V' h1 hal h2 h => ⟨h.1, h.2.elim fun B' q => ⟨B', q.1.mv h1 h2, q.2⟩⟩) ?_
  intro p e s m args below meth c s₁ X0 hexec hbytes hml hret hlk hnm hown hh0 W hP
  obtain ⟨rfl, hA, hB, hne, l1, l2, hp⟩ := hP
  have c1 : Steps p.tables e below (s₁.setTop (entryFrame m #[.ref b, .int (Int32.ofNat o), .ref d, .int (Int32.ofNat q), .int (Int32.ofNat len)] 7)) (s₁.setTop (mkF m 0 #[.val (.ref b), .val (.int (Int32.ofNat o)), .val (.ref d), .val (.int (Int32.ofNat q)), .val (.int (Int32.ofNat len)), .unset, .unset] [])) := entry rfl
  have hA0 := hA.1.mv X0.warmed.alike hh0
  have hB0 := hB.mv X0.warmed.alike hh0
  have a31 := hA.1.2.2.2
  have c2 : Steps p.tables e below (s₁.setTop (entryFrame m #[.ref b, .int (Int32.ofNat o), .ref d, .int (Int32.ofNat q), .int (Int32.ofNat len)] 7)) (s₁.setTop (mkF m 3 #[.val (.ref b), .val (.int (Int32.ofNat o)), .val (.ref d), .val (.int (Int32.ofNat q)), .val (.int (Int32.ofNat len)), .val (.int 0), .unset] [])) := c1.trans (by
    refine iconstV X0.here hexec rfl 0 (hb hbytes d0) (by decide) ?_
    refine XS.istore X0.here hexec rfl (hb hbytes d1) rfl rfl ?_
    exact Steps.refl _)
  have loop : ∀ (r i : Nat), i + r = len → ∀ (z : Slot), (z = .unset ∨ ∃ w, z = .val w ∧ w.category = 1) → ∀ (Tl : State) (Bk : Cell), Stand p l e { frames := 0, locals := 0, cells := 0, slots := 0 } s m #[.ref b, .int (Int32.ofNat o), .ref d, .int (Int32.ofNat q), .int (Int32.ofNat len)] below meth c Tl ([] ++ copyLocs d q i) 0 0 → Put d Bk s₁ Tl → Laid B Bk q (q + i) (fun j => Value.int (lo8 (cv A (o + (j - q))))) →
      Steps p.tables e below (s₁.setTop (entryFrame m #[.ref b, .int (Int32.ofNat o), .ref d, .int (Int32.ofNat q), .int (Int32.ofNat len)] 7)) (Tl.setTop (mkF m 3 #[.val (.ref b), .val (.int (Int32.ofNat (o + i))), .val (.ref d), .val (.int (Int32.ofNat (q + i))), .val (.int (Int32.ofNat len)), .val (.int (Int32.ofNat i)), z] [])) → ∃ (T' : State) (B' : Cell) (z' : Slot), Stand p l e { frames := 0, locals := 0, cells := 0, slots := 0 } s m #[.ref b, .int (Int32.ofNat o), .ref d, .int (Int32.ofNat q), .int (Int32.ofNat len)] below meth c T' ([] ++ copyLocs d q len) 0 0 ∧ Put d B' s₁ T' ∧ Laid B B' q (q + len) (fun j => Value.int (lo8 (cv A (o + (j - q))))) ∧
      Steps p.tables e below (s₁.setTop (entryFrame m #[.ref b, .int (Int32.ofNat o), .ref d, .int (Int32.ofNat q), .int (Int32.ofNat len)] 7)) (T'.setTop (mkF m 3 #[.val (.ref b), .val (.int (Int32.ofNat (o + len))), .val (.ref d), .val (.int (Int32.ofNat (q + len))), .val (.int (Int32.ofNat len)), .val (.int (Int32.ofNat len)), z'] [])) := by
    intro r
    induction r with
    | zero =>
      intro i hi z hz Tl Bk Xl pl fl cl
      have hil : i = len := by omega
      rw [hil] at Xl fl cl
      exact ⟨Tl, Bk, z, Xl, pl, fl, cl⟩
    | succ r ih =>
      intro i hi z hz Tl Bk Xl pl fl cl
      have all := X0.warmed.alike.symm.trans Xl.warmed.alike
      have hAl := hA0.keep all (pl.other hne hA0.1)
      have hBk := hB0.like all pl.1 fl.1 fl.2.1 fl.2.2.1
      have hlt : q + i < Bk.slots.size := by rw [fl.2.2.1]; omega
      have c3 : Steps p.tables e below (s₁.setTop (entryFrame m #[.ref b, .int (Int32.ofNat o), .ref d, .int (Int32.ofNat q), .int (Int32.ofNat len)] 7)) (Tl.setTop (mkF m 12 #[.val (.ref b), .val (.int (Int32.ofNat (o + i))), .val (.ref d), .val (.int (Int32.ofNat (q + i))), .val (.int (Int32.ofNat len)), .val (.int (Int32.ofNat i)), z] [.int (Int32.ofNat (o + i)), .ref b])) := cl.trans (by
        refine XS.iload Xl.here hexec rfl (hb hbytes d3) rfl ?_
        refine XS.iload Xl.here hexec rfl (hb hbytes d5) rfl ?_
        refine XS.icmpNo Xl.here hexec rfl (hb hbytes d7) rfl (ii_ge_f (lt32 (by omega) (by omega))) ?_
        refine XS.aloadN Xl.here hexec rfl (hb hbytes d10) rfl rfl ?_
        refine XS.iloadN Xl.here hexec rfl (hb hbytes d11) rfl ?_
        exact Steps.refl _)
      have c4 : Steps p.tables e below (s₁.setTop (entryFrame m #[.ref b, .int (Int32.ofNat o), .ref d, .int (Int32.ofNat q), .int (Int32.ofNat len)] 7)) (Tl.setTop (mkF m 13 #[.val (.ref b), .val (.int (Int32.ofNat (o + i))), .val (.ref d), .val (.int (Int32.ofNat (q + i))), .val (.int (Int32.ofNat len)), .val (.int (Int32.ofNat i)), z] [.int (cv A (o + i))])) := c3.trans (by
        refine Xl.aget hexec hAl rfl (hA.get (i := o + i) (by omega)) rfl rfl (hb hbytes d12) ?_
        exact Steps.refl _)
      have c5 : Steps p.tables e below (s₁.setTop (entryFrame m #[.ref b, .int (Int32.ofNat o), .ref d, .int (Int32.ofNat q), .int (Int32.ofNat len)] 7)) (Tl.setTop (mkF m 15 #[.val (.ref b), .val (.int (Int32.ofNat (o + i))), .val (.ref d), .val (.int (Int32.ofNat (q + i))), .val (.int (Int32.ofNat len)), .val (.int (Int32.ofNat i)), .val (.int (cv A (o + i)))] [])) := c4.trans (by
        refine XS.istoreS Xl.here hexec rfl (hb hbytes d13) rfl rfl hz ?_
        exact Steps.refl _)
      have c6 : Steps p.tables e below (s₁.setTop (entryFrame m #[.ref b, .int (Int32.ofNat o), .ref d, .int (Int32.ofNat q), .int (Int32.ofNat len)] 7)) (Tl.setTop (mkF m 31 #[.val (.ref b), .val (.int (Int32.ofNat (o + i))), .val (.ref d), .val (.int (Int32.ofNat (q + i))), .val (.int (Int32.ofNat len)), .val (.int (Int32.ofNat i)), .val (.int (cv A (o + i)))] [.int (lo8 (cv A (o + i))), .int (Int32.ofNat (q + i)), .ref d])) := c5.trans (by
        refine XS.iload Xl.here hexec rfl (hb hbytes d15) rfl ?_
        refine sipushV Xl.here hexec rfl 255 (hb hbytes d17) (by decide) ?_
        refine XS.icmpYes Xl.here hexec rfl (pc0 := 20) rfl (hb hbytes d20) rfl (ii_le_t (hp i (by omega))) (by decide) rfl ?_
        refine XS.aloadN Xl.here hexec rfl (hb hbytes d26) rfl rfl ?_
        refine XS.iloadN Xl.here hexec rfl (hb hbytes d27) rfl ?_
        refine XS.iload Xl.here hexec rfl (hb hbytes d28) rfl ?_
        refine i2b Xl.here hexec rfl (hb hbytes d30) rfl ?_
        exact Steps.refl _)
      obtain ⟨T7, X7, p7, st7⟩ := Xl.aput hexec hBk rfl hlt rfl (fits_lo8 (cv A (o + i))) (g := (mkF m 31 #[.val (.ref b), .val (.int (Int32.ofNat (o + i))), .val (.ref d), .val (.int (Int32.ofNat (q + i))), .val (.int (Int32.ofNat len)), .val (.int (Int32.ofNat i)), .val (.int (cv A (o + i)))] [.int (lo8 (cv A (o + i))), .int (Int32.ofNat (q + i)), .ref d])) rfl (rest := []) rfl (hb hbytes d31)
      have c8 : Steps p.tables e below (s₁.setTop (entryFrame m #[.ref b, .int (Int32.ofNat o), .ref d, .int (Int32.ofNat q), .int (Int32.ofNat len)] 7)) (T7.setTop (mkF m 32 #[.val (.ref b), .val (.int (Int32.ofNat (o + i))), .val (.ref d), .val (.int (Int32.ofNat (q + i))), .val (.int (Int32.ofNat len)), .val (.int (Int32.ofNat i)), .val (.int (cv A (o + i)))] [])) := c6.trans (st7 _ (Steps.refl _))
      have c9 : Steps p.tables e below (s₁.setTop (entryFrame m #[.ref b, .int (Int32.ofNat o), .ref d, .int (Int32.ofNat q), .int (Int32.ofNat len)] 7)) (T7.setTop (mkF m 3 #[.val (.ref b), .val (.int (Int32.ofNat (o + i) + 1)), .val (.ref d), .val (.int (Int32.ofNat (q + i) + 1)), .val (.int (Int32.ofNat len)), .val (.int (Int32.ofNat i + 1)), .val (.int (cv A (o + i)))] [])) := c8.trans (by
        refine iincV X7.here hexec rfl 1 (hb hbytes d32) (by decide) rfl rfl ?_
        refine iincV X7.here hexec rfl 1 (hb hbytes d35) (by decide) rfl rfl ?_
        refine iincV X7.here hexec rfl 1 (hb hbytes d38) (by decide) rfl rfl ?_
        refine XS.goto X7.here hexec rfl (pc0 := 41) rfl (hb hbytes d41) (by decide) rfl ?_
        exact Steps.refl _)
      have c10 : Steps p.tables e below (s₁.setTop (entryFrame m #[.ref b, .int (Int32.ofNat o), .ref d, .int (Int32.ofNat q), .int (Int32.ofNat len)] 7)) (T7.setTop (mkF m 3 #[.val (.ref b), .val (.int (Int32.ofNat (o + (i + 1)))), .val (.ref d), .val (.int (Int32.ofNat (q + (i + 1)))), .val (.int (Int32.ofNat len)), .val (.int (Int32.ofNat (i + 1))), .val (.int (cv A (o + i)))] [])) := by
        have := c9
        rw [succ32, succ32, succ32] at this
        exact this
      exact ih (i + 1) (by omega) _ (Or.inr ⟨_, rfl, rfl⟩) T7 _ (by rw [copyLocs_step, ← List.append_assoc]; exact X7) (pl.trans p7) (fl.step (by omega) hlt (by simp)) c10
  obtain ⟨T9, B9, z9, X9, p9, f9, g9⟩ := loop len 0 (by omega) .unset (Or.inl rfl) s₁ B (by simpa [copyLocs] using X0) ⟨hB0.1, fun _ _ => rfl, rfl⟩ (Laid.zero _ _ _) c2
  have c11 : Steps p.tables e below (s₁.setTop (entryFrame m #[.ref b, .int (Int32.ofNat o), .ref d, .int (Int32.ofNat q), .int (Int32.ofNat len)] 7)) (T9.setTop (mkF m 46 #[.val (.ref b), .val (.int (Int32.ofNat (o + len))), .val (.ref d), .val (.int (Int32.ofNat (q + len))), .val (.int (Int32.ofNat len)), .val (.int (Int32.ofNat len)), z9] [.int (Int32.ofNat len)])) := g9.trans (by
    refine XS.iload X9.here hexec rfl (hb hbytes d3) rfl ?_
    refine XS.iload X9.here hexec rfl (hb hbytes d5) rfl ?_
    refine XS.icmpYes X9.here hexec rfl (pc0 := 7) rfl (hb hbytes d7) rfl (ii_ge_t (nlt32 (by omega) (Nat.le_refl _))) (by decide) rfl ?_
    refine XS.iload X9.here hexec rfl (hb hbytes d44) rfl ?_
    exact Steps.refl _)
  exact ⟨T9, some (.int (Int32.ofNat len)), _, _, _, X9, by simp, rfl, rfl, (fun h => by cases h), ⟨rfl, B9, p9.from hh0, f9⟩, fun fs hl => c11.trans (X9.ireturnOut hexec hret rfl (Or.inl rfl) (hb hbytes d46) hl)⟩
end Cmp5
namespace Cmp3
def yN : MethodName := ⟨"java/lang/StringUTF16", "compress", "([CII)[B"⟩
abbrev yB : ByteArray := jdk_52_method_16_code
theorem d0 : decode yB 0 = .ok (.iload_n 2, 1) := by decide +kernel
theorem d1 : decode yB 1 = .ok (.newarray .byte, 2) := by decide +kernel
theorem d3 : decode yB 3 = .ok (.astore_n 3, 1) := by decide +kernel
theorem d4 : decode yB 4 = .ok (.aload_n 0, 1) := by decide +kernel
theorem d5 : decode yB 5 = .ok (.iload_n 1, 1) := by decide +kernel
theorem d6 : decode yB 6 = .ok (.aload_n 3, 1) := by decide +kernel
theorem d7 : decode yB 7 = .ok (.iconst 0, 1) := by decide +kernel
theorem d8 : decode yB 8 = .ok (.iload_n 2, 1) := by decide +kernel
theorem d9 : decode yB 9 = .ok (.invokestatic 115, 3) := by decide +kernel
theorem d12 : decode yB 12 = .ok (.istore 4, 2) := by decide +kernel
theorem d14 : decode yB 14 = .ok (.iload 4, 2) := by decide +kernel
theorem d16 : decode yB 16 = .ok (.iload_n 2, 1) := by decide +kernel
theorem d17 : decode yB 17 = .ok (.if_icmp (.eq) 40, 3) := by decide +kernel
theorem d57 : decode yB 57 = .ok (.aload_n 3, 1) := by decide +kernel
theorem d58 : decode yB 58 = .ok (.areturn, 1) := by decide +kernel
def site : List Cond := [.arrayClass .byte, Cmp5.tab] ++ staticW U16 115 Cmp5.yN
def tab : Cond := tabOf yN yB 6 (some (.array .byte)) site
def P (b : Addr) (A : Cell) (o len : Nat) (args : Array Value) (s : State) : Prop := args = #[.ref b, .int (Int32.ofNat o), .int (Int32.ofNat len)] ∧ Ch b A s ∧ o + len ≤ A.slots.size ∧ len ≤ 536870912 ∧ ∀ i, i < len → ¬ 255 < cv A (o + i)
def E (b : Addr) (A : Cell) (o len : Nat) (r : Option Value) (s u : State) : Prop := NewArr .byte "[B" len (fun j => .int (lo8 (cv A (o + j)))) r s u ∧ u.heap.size = s.heap.size + 1
/-- no char of the range above 255: a new byte[] of their low bytes -/
theorem law (l : Launch) (b : Addr) (A : Cell) (o len : Nat) : Law l yN 3 3 1 18 yB 6 (some (.array .byte)) site (P b A o len) (E b A o len) [] 1 len := by
  refine Law.of_walk (plainFor_of_name (by decide +kernel)) (by decide +kernel) (by decide +kernel) (by decide) (fun _ _ h => by rw [h.1]; rfl) (fun _ U U' hal hh h => ⟨h.1, h.2.1.mv hal hh, h.2.2⟩) (fun r U U' V V' h1 hal h2 h => ⟨NewArr.mv r U U' V V' h1 hal h2 h.1, by rw [h1, h2]; exact h.2⟩) ?_
  intro p e s m args below meth c s₁ X0 hexec hbytes hml hret hlk hnm hown hh0 W hP
  obtain ⟨rfl, hA, l1, l2, hp⟩ := hP
  have a31 := hA.1.2.2.2
  have c1 : Steps p.tables e below (s₁.setTop (entryFrame m #[.ref b, .int (Int32.ofNat o), .int (Int32.ofNat len)] 6)) (s₁.setTop (mkF m 0 #[.val (.ref b), .val (.int (Int32.ofNat o)), .val (.int (Int32.ofNat len)), .unset, .unset, .unset] [])) := entry rfl
  have c2 : Steps p.tables e below (s₁.setTop (entryFrame m #[.ref b, .int (Int32.ofNat o), .int (Int32.ofNat len)] 6)) (s₁.setTop (mkF m 1 #[.val (.ref b), .val (.int (Int32.ofNat o)), .val (.int (Int32.ofNat len)), .unset, .unset, .unset] [.int (Int32.ofNat len)])) := c1.trans (by
    refine XS.iloadN X0.here hexec rfl (hb hbytes d0) rfl ?_
    exact Steps.refl _)
  obtain ⟨T3, B3, X3, ba3, bs3, bv3, bh3, bf3, st3⟩ := X0.anew hexec (atype := .byte) (wk W (.arrayClass .byte)) rfl (by show len * 1 ≤ _; omega) (by omega) (g := (mkF m 1 #[.val (.ref b), .val (.int (Int32.ofNat o)), .val (.int (Int32.ofNat len)), .unset, .unset, .unset] [.int (Int32.ofNat len)])) rfl (hb hbytes d1) (rest := []) rfl (Nat.le_refl _) (by show 0 + len ≤ len; omega)
  rw [hh0] at ba3 st3
  have kp3 : XT.Kept s T3 := (XT.Kept.of_eq hh0).push bh3
  have hA3 := hA.keep X3.warmed.alike (kp3 _ _ hA.1.1)
  have hne : b ≠ s.heap.size := hA.1.ne
  have c4 : Steps p.tables e below (s₁.setTop (entryFrame m #[.ref b, .int (Int32.ofNat o), .int (Int32.ofNat len)] 6)) (T3.setTop (mkF m 3 #[.val (.ref b), .val (.int (Int32.ofNat o)), .val (.int (Int32.ofNat len)), .unset, .unset, .unset] [.ref s.heap.size])) := c2.trans (st3 _ (Steps.refl _))
  have c5 : Steps p.tables e below (s₁.setTop (entryFrame m #[.ref b, .int (Int32.ofNat o), .int (Int32.ofNat len)] 6)) (T3.setTop (mkF m 9 #[.val (.ref b), .val (.int (Int32.ofNat o)), .val (.int (Int32.ofNat len)), .val (.ref s.heap.size), .unset, .unset] [.int (Int32.ofNat len), .int 0, .ref s.heap.size, .int (Int32.ofNat o), .ref b])) := c4.trans (by
    refine XS.astoreN X3.here hexec rfl (hb hbytes d3) rfl rfl rfl ?_
    refine XS.aloadN X3.here hexec rfl (hb hbytes d4) rfl rfl ?_
    refine XS.iloadN X3.here hexec rfl (hb hbytes d5) rfl ?_
    refine XS.aloadN X3.here hexec rfl (hb hbytes d6) rfl rfl ?_
    refine iconstV X3.here hexec rfl 0 (hb hbytes d7) (by decide) ?_
    refine XS.iloadN X3.here hexec rfl (hb hbytes d8) rfl ?_
    exact Steps.refl _)
  obtain ⟨v6, T6, X6, E6, g6⟩ := X3.callS hexec (Cmp5.law l b A s.heap.size B3 o 0 len) hown (wks W (staticW U16 115 Cmp5.yN)) (wk W Cmp5.tab) (W := 0) (Nat.le_of_ble_eq_true rfl) (Nat.le_of_ble_eq_true rfl) (Nat.le_refl _) (by show 0 + len + 0 ≤ len; omega) (g := (mkF m 9 #[.val (.ref b), .val (.int (Int32.ofNat o)), .val (.int (Int32.ofNat len)), .val (.ref s.heap.size), .unset, .unset] [.int (Int32.ofNat len), .int (Int32.ofNat 0), .ref s.heap.size, .int (Int32.ofNat o), .ref b])) rfl (by rw [hml]; rfl) c5 (argsL := [.ref b, .int (Int32.ofNat o), .ref s.heap.size, .int (Int32.ofNat 0), .int (Int32.ofNat len)]) (rest := []) rfl rfl (by show 2 * 0 + 0 ≤ _; decide) (hb hbytes d9) (⟨rfl, hA3, ba3, hne, l1, by rw [bs3]; simp, hp⟩)
  obtain ⟨rfl, B6, p6, f6⟩ := E6
  have c7 : Steps p.tables e below (s₁.setTop (entryFrame m #[.ref b, .int (Int32.ofNat o), .int (Int32.ofNat len)] 6)) (T6.setTop (mkF m 12 #[.val (.ref b), .val (.int (Int32.ofNat o)), .val (.int (Int32.ofNat len)), .val (.ref s.heap.size), .unset, .unset] [.int (Int32.ofNat len)])) := g6
  have c8 : Steps p.tables e below (s₁.setTop (entryFrame m #[.ref b, .int (Int32.ofNat o), .int (Int32.ofNat len)] 6)) (T6.setTop (mkF m 58 #[.val (.ref b), .val (.int (Int32.ofNat o)), .val (.int (Int32.ofNat len)), .val (.ref s.heap.size), .val (.int (Int32.ofNat len)), .unset] [.ref s.heap.size])) := c7.trans (by
    refine XS.istore X6.here hexec rfl (hb hbytes d12) rfl rfl ?_
    refine XS.iload X6.here hexec rfl (hb hbytes d14) rfl ?_
    refine XS.iloadN X6.here hexec rfl (hb hbytes d16) rfl ?_
    refine XS.icmpYes X6.here hexec rfl (pc0 := 17) rfl (hb hbytes d17) rfl (ii_eq_t rfl) (by decide) rfl ?_
    refine XS.aloadN X6.here hexec rfl (hb hbytes d57) rfl rfl ?_
    exact Steps.refl _)
  have X8 := X6.wide (L' := []) (cells' := 1) (slots' := len) (fun x hx hlt => by
    simp only [List.nil_append, copyLocs, List.mem_map, List.mem_range] at hx
    obtain ⟨i, -, rfl⟩ := hx
    exact absurd hlt (Nat.lt_irrefl _)) (Nat.le_refl _) (by omega)
  exact ⟨T6, some (.ref s.heap.size), _, _, _, X8, rfl, rfl, rfl, (fun h => by cases h), ⟨⟨rfl, B6, ba3.like (X3.warmed.alike.symm.trans X6.warmed.alike) p6.1 f6.1 f6.2.1 f6.2.2.1, f6.2.1.trans bv3, by rw [X6.warmed.alike.findClass, f6.1]; exact bf3, by rw [f6.2.2.1, bs3]; simp, fun j hj => by rw [f6.2.2.2 j, if_pos (by omega)]; rfl, kp3.put p6 (Nat.le_refl _)⟩, by rw [p6.2.2, bh3, hh0]; simp⟩, fun fs hl => c8.trans (X8.areturnOut hexec rfl hret rfl (hb hbytes d58) hl)⟩
end Cmp3
namespace CodL
def yN : MethodName := ⟨"java/lang/StringUTF16", "coderFromArrayLen", "([BI)B"⟩
abbrev yB : ByteArray := jdk_52_method_15_code
theorem d0 : decode yB 0 = .ok (.iload_n 1, 1) := by decide +kernel
theorem d1 : decode yB 1 = .ok (.aload_n 0, 1) := by decide +kernel
theorem d2 : decode yB 2 = .ok (.arraylength, 1) := by decide +kernel
theorem d3 : decode yB 3 = .ok (.isub, 1) := by decide +kernel
theorem d4 : decode yB 4 = .ok (.bipush 31, 2) := by decide +kernel
theorem d6 : decode yB 6 = .ok (.iushr, 1) := by decide +kernel
theorem d7 : decode yB 7 = .ok (.i2b, 1) := by decide +kernel
theorem d8 : decode yB 8 = .ok (.ireturn, 1) := by decide +kernel
def site : List Cond := []
def tab : Cond := tabOf yN yB 2 (some .byte) site
def P (d : Addr) (B : Cell) (args : Array Value) (s : State) : Prop := args = #[.ref d, .int (Int32.ofNat B.slots.size)] ∧ Arr .byte d B s
def E (r : Option Value) (s u : State) : Prop := XT.PureE (some (.int 0)) r s u
/-- an array as long as the number of chars: LATIN1 -/
theorem law (l : Launch) (d : Addr) (B : Cell) : Law l yN 2 2 0 0 yB 2 (some .byte) site (P d B) E [] 0 0 := by
  refine Law.of_walk (plainFor_of_name (by decide +kernel)) (by decide +kernel) (by decide +kernel) (by decide) (fun _ _ h => by rw [h.1]; rfl) (fun _ U U' hal hh h => ⟨h.1, h.2.mv hal hh⟩) (fun r U U' V V' h1 hal h2 h => XT.PureE.mv r U U' V V' h1 hal h2 h) ?_
  intro p e s m args below meth c s₁ X0 hexec hbytes hml hret hlk hnm hown hh0 W hP
  obtain ⟨rfl, hB⟩ := hP
  have hB0 := hB.mv X0.warmed.alike hh0
  have c1 : Steps p.tables e below (s₁.setTop (entryFrame m #[.ref d, .int (Int32.ofNat B.slots.size)] 2)) (s₁.setTop (mkF m 0 #[.val (.ref d), .val (.int (Int32.ofNat B.slots.size))] [])) := entry rfl
  have c2 : Steps p.tables e below (s₁.setTop (entryFrame m #[.ref d, .int (Int32.ofNat B.slots.size)] 2)) (s₁.setTop (mkF m 2 #[.val (.ref d), .val (.int (Int32.ofNat B.slots.size))] [.ref d, .int (Int32.ofNat B.slots.size)])) := c1.trans (by
    refine XS.iloadN X0.here hexec rfl (hb hbytes d0) rfl ?_
    refine XS.aloadN X0.here hexec rfl (hb hbytes d1) rfl rfl ?_
    exact Steps.refl _)
  have c3 : Steps p.tables e below (s₁.setTop (entryFrame m #[.ref d, .int (Int32.ofNat B.slots.size)] 2)) (s₁.setTop (mkF m 8 #[.val (.ref d), .val (.int (Int32.ofNat B.slots.size))] [.int (lo8 (ushr (Int32.ofNat B.slots.size - Int32.ofNat B.slots.size) 31))])) := c2.trans (by
    refine X0.alen hexec hB0 rfl rfl (hb hbytes d2) ?_
    refine XS.isub X0.here hexec rfl (hb hbytes d3) rfl ?_
    refine bipushV X0.here hexec rfl 31 (hb hbytes d4) (by decide) ?_
    refine iushr X0.here hexec rfl (hb hbytes d6) rfl ?_
    refine i2b X0.here hexec rfl (hb hbytes d7) rfl ?_
    exact Steps.refl _)
  have e0 : lo8 (ushr (Int32.ofNat B.slots.size - Int32.ofNat B.slots.size) 31) = 0 := by rw [Int32.sub_self]; decide
  rw [e0] at c3
  exact ⟨s₁, some (.int 0), _, _, _, X0, rfl, rfl, rfl, (fun h => by cases h), ⟨rfl, hh0⟩, fun fs hl => c3.trans (X0.ireturnOut hexec hret rfl (Or.inr (Or.inr (Or.inl rfl))) (hb hbytes d8) hl)⟩
end CodL
/-- the String at a is Latin-1 over a new byte[] (the heap's one new cell): the low bytes of the len chars of A from o on; every cell but a is kept -/
def Got (a : Addr) (D : Cell) (fV fC : Field) (A : Cell) (o len : Nat) (r : Option Value) (s u : State) : Prop := r = none ∧ ∃ D' V : Cell, Blank "java/lang/String" a D' u ∧ Same D D' [fV.slot, fC.slot] ∧ D'.slots[fV.slot]? = some (.ref s.heap.size) ∧ D'.slots[fC.slot]? = some (.int 0) ∧ Arr .byte s.heap.size V u ∧ V.vm = .none ∧ u.vm.findClass "[B" = some V.cls ∧ V.slots.size = len ∧ (∀ j, j < len → V.slots[j]? = some (.int (lo8 (cv A (o + j))))) ∧ (∀ (y : Addr) (c : Cell), y ≠ a → s.heap[y]? = some c → u.heap[y]? = some c) ∧ u.heap.size = s.heap.size + 1
theorem Got.mv {a : Addr} {D A : Cell} {fV fC : Field} {o len : Nat} : ∀ r (U U' V V' : State), U'.heap = U.heap → V.vm.Alike V'.vm → V'.heap = V.heap → Got a D fV fC A o len r U V → Got a D fV fC A o len r U' V' :=
  fun r U U' V V' h1 hal h2 ⟨e0, D', X, a1, a2, a3, a4, a5, a6, a7, a8, a9, a10, a11⟩ => ⟨e0, D', X, a1.mv hal h2, a2, by rw [h1]; exact a3, a4, by rw [h1]; exact a5.mv hal h2, a6, by rw [hal.findClass]; exact a7, a8, a9, by rw [h1, h2]; exact a10, by rw [h1, h2]; exact a11⟩
namespace New4
def yN : MethodName := ⟨"java/lang/String", "<init>", "([CIILjava/lang/Void;)V"⟩
abbrev yB : ByteArray := jdk_42_method_149_code
theorem d0 : decode yB 0 = .ok (.aload_n 0, 1) := by decide +kernel
theorem d1 : decode yB 1 = .ok (.invokespecial 1, 3) := by decide +kernel
theorem d4 : decode yB 4 = .ok (.iload_n 3, 1) := by decide +kernel
theorem d5 : decode yB 5 = .ok (.ifCond (.ne) 22, 3) := by decide +kernel
theorem d27 : decode yB 27 = .ok (.getstatic 38, 3) := by decide +kernel
theorem d30 : decode yB 30 = .ok (.ifCond (.eq) 28, 3) := by decide +kernel
theorem d33 : decode yB 33 = .ok (.aload_n 1, 1) := by decide +kernel
theorem d34 : decode yB 34 = .ok (.iload_n 2, 1) := by decide +kernel
theorem d35 : decode yB 35 = .ok (.iload_n 3, 1) := by decide +kernel
theorem d36 : decode yB 36 = .ok (.invokestatic 177, 3) := by decide +kernel
theorem d39 : decode yB 39 = .ok (.astore 5, 2) := by decide +kernel
theorem d41 : decode yB 41 = .ok (.aload_n 0, 1) := by decide +kernel
theorem d42 : decode yB 42 = .ok (.aload 5, 2) := by decide +kernel
theorem d44 : decode yB 44 = .ok (.iload_n 3, 1) := by decide +kernel
theorem d45 : decode yB 45 = .ok (.invokestatic 47, 3) := by decide +kernel
theorem d48 : decode yB 48 = .ok (.putfield 15, 3) := by decide +kernel
theorem d51 : decode yB 51 = .ok (.aload_n 0, 1) := by decide +kernel
theorem d52 : decode yB 52 = .ok (.aload 5, 2) := by decide +kernel
theorem d54 : decode yB 54 = .ok (.putfield 9, 3) := by decide +kernel
theorem d57 : decode yB 57 = .ok (.return_, 1) := by decide +kernel
def site : List Cond := [.fieldLink "java/lang/String" 38 "java/lang/String" "COMPACT_STRINGS" "Z", Cmp3.tab, CodL.tab, .laysFinal "java/lang/String" "java/lang/String" "value" "[B", .fieldLink "java/lang/String" 9 "java/lang/String" "value" "[B", .laysFinal "java/lang/String" "java/lang/String" "coder" "B", .fieldLink "java/lang/String" 15 "java/lang/String" "coder" "B"] ++ objW "java/lang/String" 1 ++ staticW "java/lang/String" 177 Cmp3.yN ++ staticW "java/lang/String" 47 CodL.yN
def tab : Cond := tabOf yN yB 6 none site
def P (a : Addr) (D : Cell) (fV fC : Field) (b : Addr) (A : Cell) (z : Int32) (o len : Nat) (args : Array Value) (s : State) : Prop := args = #[.ref a, .ref b, .int (Int32.ofNat o), .int (Int32.ofNat len), .null] ∧ Blank "java/lang/String" a D s ∧ Found "java/lang/String" "value" "[B" fV s ∧ Found "java/lang/String" "coder" "B" fC s ∧ Ch b A s ∧ StaticIs s "java/lang/String" "COMPACT_STRINGS" "Z" (.int z) ∧ ¬ z = 0 ∧ 0 < len ∧ o + len ≤ A.slots.size ∧ len ≤ 536870912 ∧ ∀ i, i < len → ¬ 255 < cv A (o + i)
def E (a : Addr) (D : Cell) (fV fC : Field) (A : Cell) (o len : Nat) (r : Option Value) (s u : State) : Prop := Got a D fV fC A o len r s u
/-- len > 0, no char of the range above 255: a Latin-1 String of their low bytes -/
theorem law (l : Launch) (a : Addr) (D : Cell) (fV fC : Field) (b : Addr) (A : Cell) (z : Int32) (o len : Nat) : Law l yN 5 4 2 35 yB 6 none site (P a D fV fC b A z o len) (E a D fV fC A o len) [⟨a, fC.slot⟩, ⟨a, fV.slot⟩] 1 len := by
  refine Law.of_walk (plainFor_of_name (by decide +kernel)) (by decide +kernel) (by decide +kernel) (by decide) (fun _ _ h => by rw [h.1]; rfl) (fun _ U U' hal hh h => ⟨h.1, h.2.1.mv hal hh, h.2.2.1.al hal, h.2.2.2.1.al hal, h.2.2.2.2.1.mv hal hh, h.2.2.2.2.2.1.there hal hh, h.2.2.2.2.2.2⟩) (fun r U U' V V' h1 hal h2 h => Got.mv r U U' V V' h1 hal h2 h) ?_
  intro p e s m args below meth c s₁ X0 hexec hbytes hml hret hlk hnm hown hh0 W hP
  obtain ⟨rfl, hB, f1, f2, hA, s1, hz, l0, l1, l2, hp⟩ := hP
  have a31 := hA.1.2.2.2
  have c1 : Steps p.tables e below (s₁.setTop (entryFrame m #[.ref a, .ref b, .int (Int32.ofNat o), .int (Int32.ofNat len), .null] 6)) (s₁.setTop (mkF m 0 #[.val (.ref a), .val (.ref b), .val (.int (Int32.ofNat o)), .val (.int (Int32.ofNat len)), .val .null, .unset] [])) := entry rfl
  have c2 : Steps p.tables e below (s₁.setTop (entryFrame m #[.ref a, .ref b, .int (Int32.ofNat o), .int (Int32.ofNat len), .null] 6)) (s₁.setTop (mkF m 1 #[.val (.ref a), .val (.ref b), .val (.int (Int32.ofNat o)), .val (.int (Int32.ofNat len)), .val .null, .unset] [.ref a])) := c1.trans (by
    refine XS.aloadN X0.here hexec rfl (hb hbytes d0) rfl rfl ?_
    exact Steps.refl _)
  obtain ⟨T3, X3, q3, st3⟩ := X0.oinit hexec hown (wks W (objW "java/lang/String" 1)) (g := (mkF m 1 #[.val (.ref a), .val (.ref b), .val (.int (Int32.ofNat o)), .val (.int (Int32.ofNat len)), .val .null, .unset] [.ref a])) rfl (by rw [hml]; rfl) (rest := []) rfl (hb hbytes d1) (W := 0) (by show 2 * 0 + 0 ≤ _; decide) (Nat.le_of_ble_eq_true rfl) (Nat.le_of_ble_eq_true rfl)
  have hh3 := q3.trans hh0
  have c4 : Steps p.tables e below (s₁.setTop (entryFrame m #[.ref a, .ref b, .int (Int32.ofNat o), .int (Int32.ofNat len), .null] 6)) (T3.setTop (mkF m 27 #[.val (.ref a), .val (.ref b), .val (.int (Int32.ofNat o)), .val (.int (Int32.ofNat len)), .val .null, .unset] [])) := (c2.trans (st3 _ (Steps.refl _))).trans (by
    refine XS.iloadN X3.here hexec rfl (hb hbytes d4) rfl ?_
    refine XS.ifYes X3.here hexec rfl (pc0 := 5) rfl (hb hbytes d5) rfl (i0_ne_t (nz32 (by omega) l0)) (by decide) rfl ?_
    exact Steps.refl _)
  obtain ⟨T5, X5, q5, st5⟩ := X3.sget hexec hown (wk W (.fieldLink "java/lang/String" 38 "java/lang/String" "COMPACT_STRINGS" "Z")) s1 (fun _ _ h => by rw [hh3]; exact h) (g := (mkF m 27 #[.val (.ref a), .val (.ref b), .val (.int (Int32.ofNat o)), .val (.int (Int32.ofNat len)), .val .null, .unset] [])) rfl (hb hbytes d27)
  have hh5 := q5.trans hh3
  have c6 : Steps p.tables e below (s₁.setTop (entryFrame m #[.ref a, .ref b, .int (Int32.ofNat o), .int (Int32.ofNat len), .null] 6)) (T5.setTop (mkF m 30 #[.val (.ref a), .val (.ref b), .val (.int (Int32.ofNat o)), .val (.int (Int32.ofNat len)), .val .null, .unset] [.int z])) := c4.trans (st5 _ (Steps.refl _))
  have c7 : Steps p.tables e below (s₁.setTop (entryFrame m #[.ref a, .ref b, .int (Int32.ofNat o), .int (Int32.ofNat len), .null] 6)) (T5.setTop (mkF m 36 #[.val (.ref a), .val (.ref b), .val (.int (Int32.ofNat o)), .val (.int (Int32.ofNat len)), .val .null, .unset] [.int (Int32.ofNat len), .int (Int32.ofNat o), .ref b])) := c6.trans (by
    refine XS.ifNo X5.here hexec rfl (hb hbytes d30) rfl (i0_eq_f hz) ?_
    refine XS.aloadN X5.here hexec rfl (hb hbytes d33) rfl rfl ?_
    refine XS.iloadN X5.here hexec rfl (hb hbytes d34) rfl ?_
    refine XS.iloadN X5.here hexec rfl (hb hbytes d35) rfl ?_
    exact Steps.refl _)
  obtain ⟨v8, T8, X8, E8, g8⟩ := X5.callS hexec (Cmp3.law l b A o len) hown (wks W (staticW "java/lang/String" 177 Cmp3.yN)) (wk W Cmp3.tab) (W := 0) (Nat.le_of_ble_eq_true rfl) (Nat.le_of_ble_eq_true rfl) (Nat.le_refl _) (by show 0 + len ≤ len; omega) (g := (mkF m 36 #[.val (.ref a), .val (.ref b), .val (.int (Int32.ofNat o)), .val (.int (Int32.ofNat len)), .val .null, .unset] [.int (Int32.ofNat len), .int (Int32.ofNat o), .ref b])) rfl (by rw [hml]; rfl) c7 (argsL := [.ref b, .int (Int32.ofNat o), .int (Int32.ofNat len)]) (rest := []) rfl rfl (by show 2 * 0 + 0 ≤ _; decide) (hb hbytes d36) (⟨rfl, hA.mv X5.warmed.alike hh5, l1, l2, hp⟩)
  obtain ⟨e8, z8⟩ := E8
  obtain ⟨rfl, N, n1, n2, n3, n4, n5, n6⟩ := NewArr.mv _ T5 s _ _ hh5.symm (Vm.Alike.refl _) rfl e8
  rw [hh5] at z8
  have hB1 := hB.keep X8.warmed.alike (n6 _ _ hB.1)
  have hne : s.heap.size ≠ a := (Nat.ne_of_lt (Array.getElem?_eq_some_iff.mp hB.1).1).symm
  have c9 : Steps p.tables e below (s₁.setTop (entryFrame m #[.ref a, .ref b, .int (Int32.ofNat o), .int (Int32.ofNat len), .null] 6)) (T8.setTop (mkF m 39 #[.val (.ref a), .val (.ref b), .val (.int (Int32.ofNat o)), .val (.int (Int32.ofNat len)), .val .null, .unset] [.ref s.heap.size])) := g8
  have c10 : Steps p.tables e below (s₁.setTop (entryFrame m #[.ref a, .ref b, .int (Int32.ofNat o), .int (Int32.ofNat len), .null] 6)) (T8.setTop (mkF m 45 #[.val (.ref a), .val (.ref b), .val (.int (Int32.ofNat o)), .val (.int (Int32.ofNat len)), .val .null, .val (.ref s.heap.size)] [.int (Int32.ofNat N.slots.size), .ref s.heap.size, .ref a])) := by
    have hc : Steps p.tables e below (s₁.setTop (entryFrame m #[.ref a, .ref b, .int (Int32.ofNat o), .int (Int32.ofNat len), .null] 6)) (T8.setTop (mkF m 45 #[.val (.ref a), .val (.ref b), .val (.int (Int32.ofNat o)), .val (.int (Int32.ofNat len)), .val .null, .val (.ref s.heap.size)] [.int (Int32.ofNat len), .ref s.heap.size, .ref a])) := c9.trans (by
      refine XS.astore X8.here hexec rfl (hb hbytes d39) rfl rfl rfl ?_
      refine XS.aloadN X8.here hexec rfl (hb hbytes d41) rfl rfl ?_
      refine XS.aload X8.here hexec rfl (hb hbytes d42) rfl rfl ?_
      refine XS.iloadN X8.here hexec rfl (hb hbytes d44) rfl ?_
      exact Steps.refl _)
    rw [n4]; exact hc
  obtain ⟨v11, T11, X11, E11, g11⟩ := X8.callS hexec (CodL.law l s.heap.size N) hown (wks W (staticW "java/lang/String" 47 CodL.yN)) (wk W CodL.tab) (W := 1) (Nat.le_of_ble_eq_true rfl) (Nat.le_of_ble_eq_true rfl) (Nat.le_refl _) (by show 0 + len + 0 ≤ len; omega) (g := (mkF m 45 #[.val (.ref a), .val (.ref b), .val (.int (Int32.ofNat o)), .val (.int (Int32.ofNat len)), .val .null, .val (.ref s.heap.size)] [.int (Int32.ofNat N.slots.size), .ref s.heap.size, .ref a])) rfl (by rw [hml]; rfl) c10 (argsL := [.ref s.heap.size, .int (Int32.ofNat N.slots.size)]) (rest := [.ref a]) rfl rfl (by show 2 * 0 + (1 + 0) ≤ _; decide) (hb hbytes d45) (⟨rfl, n1⟩)
  obtain ⟨rfl, q11⟩ := E11
  have hB11 := hB1.mv (X8.warmed.alike.symm.trans X11.warmed.alike) q11
  have c12 : Steps p.tables e below (s₁.setTop (entryFrame m #[.ref a, .ref b, .int (Int32.ofNat o), .int (Int32.ofNat len), .null] 6)) (T11.setTop (mkF m 48 #[.val (.ref a), .val (.ref b), .val (.int (Int32.ofNat o)), .val (.int (Int32.ofNat len)), .val .null, .val (.ref s.heap.size)] [.int 0, .ref a])) := g11
  obtain ⟨T13, X13, p13, bl13, sl13, st13⟩ := X11.finit hexec hown (wk W (.fieldLink "java/lang/String" 15 "java/lang/String" "coder" "B")) (Or.inr ⟨_, (wk W (.laysFinal "java/lang/String" "java/lang/String" "coder" "B"))⟩) (Or.inl ⟨rfl, hnm⟩) f2 (Or.inl rfl) hB11 (t := .byte) (by decide +kernel) rfl (g := (mkF m 48 #[.val (.ref a), .val (.ref b), .val (.int (Int32.ofNat o)), .val (.int (Int32.ofNat len)), .val .null, .val (.ref s.heap.size)] [.int 0, .ref a])) rfl (rest := []) rfl (hb hbytes d48)
  have c14 : Steps p.tables e below (s₁.setTop (entryFrame m #[.ref a, .ref b, .int (Int32.ofNat o), .int (Int32.ofNat len), .null] 6)) (T13.setTop (mkF m 54 #[.val (.ref a), .val (.ref b), .val (.int (Int32.ofNat o)), .val (.int (Int32.ofNat len)), .val .null, .val (.ref s.heap.size)] [.ref s.heap.size, .ref a])) := (c12.trans (st13 _ (Steps.refl _))).trans (by
    refine XS.aloadN X13.here hexec rfl (hb hbytes d51) rfl rfl ?_
    refine XS.aload X13.here hexec rfl (hb hbytes d52) rfl rfl ?_
    exact Steps.refl _)
  obtain ⟨T15, X15, p15, bl15, sl15, st15⟩ := X13.finit hexec hown (wk W (.fieldLink "java/lang/String" 9 "java/lang/String" "value" "[B")) (Or.inr ⟨_, (wk W (.laysFinal "java/lang/String" "java/lang/String" "value" "[B"))⟩) (Or.inl ⟨rfl, hnm⟩) f1 (Or.inl rfl) bl13 (t := (.array .byte)) (by decide +kernel) rfl (g := (mkF m 54 #[.val (.ref a), .val (.ref b), .val (.int (Int32.ofNat o)), .val (.int (Int32.ofNat len)), .val .null, .val (.ref s.heap.size)] [.ref s.heap.size, .ref a])) rfl (rest := []) rfl (hb hbytes d54)
  have c16 : Steps p.tables e below (s₁.setTop (entryFrame m #[.ref a, .ref b, .int (Int32.ofNat o), .int (Int32.ofNat len), .null] 6)) (T15.setTop (mkF m 57 #[.val (.ref a), .val (.ref b), .val (.int (Int32.ofNat o)), .val (.int (Int32.ofNat len)), .val .null, .val (.ref s.heap.size)] [])) := c14.trans (st15 _ (Steps.refl _))
  have ap := apart (Or.inr ⟨_, (wk W (.laysFinal "java/lang/String" "java/lang/String" "value" "[B"))⟩) (Or.inr ⟨_, (wk W (.laysFinal "java/lang/String" "java/lang/String" "coder" "B"))⟩) f1 f2 (t₁ := .array .byte) (t₂ := .byte) (by decide +kernel) (by decide +kernel) (by decide)
  have al := X8.warmed.alike.symm.trans X15.warmed.alike
  have n7 : T11.heap[s.heap.size]? = some N := by rw [q11]; exact n1.1
  exact ⟨T15, none, _, _, _, X15, by simp, rfl, by omega, (fun _ => rfl), ⟨rfl, _, N, bl15, ((Same.refl D _).set _ (by simp)).set _ (by simp), sl15, (Cell.slots_setSlot_ne _ ap).trans sl13, n1.keep al (p15.other hne (p13.other hne n7)), n2, by rw [al.findClass]; exact n3, n4, n5, fun y c h1 h2 => p15.other h1 (p13.other h1 (by rw [q11]; exact n6 y c h2)), by rw [p15.2.2, p13.2.2, q11]; exact z8⟩, fun fs hl => c16.trans (X15.returnOut hexec hret (hb hbytes d57) hl)⟩
end New4
namespace New1
def yN : MethodName := ⟨"java/lang/String", "<init>", "([C)V"⟩
abbrev yB : ByteArray := jdk_42_method_3_code
theorem d0 : decode yB 0 = .ok (.aload_n 0, 1) := by decide +kernel
theorem d1 : decode yB 1 = .ok (.aload_n 1, 1) := by decide +kernel
theorem d2 : decode yB 2 = .ok (.iconst 0, 1) := by decide +kernel
theorem d3 : decode yB 3 = .ok (.aload_n 1, 1) := by decide +kernel
theorem d4 : decode yB 4 = .ok (.arraylength, 1) := by decide +kernel
theorem d5 : decode yB 5 = .ok (.aconst_null, 1) := by decide +kernel
theorem d6 : decode yB 6 = .ok (.invokespecial 27, 3) := by decide +kernel
theorem d9 : decode yB 9 = .ok (.return_, 1) := by decide +kernel
def site : List Cond := [New4.tab] ++ initW "java/lang/String" 27 New4.yN
def tab : Cond := tabOf yN yB 2 none site
def P (a : Addr) (D : Cell) (fV fC : Field) (b : Addr) (A : Cell) (z : Int32) (args : Array Value) (s : State) : Prop := args = #[.ref a, .ref b] ∧ Blank "java/lang/String" a D s ∧ Found "java/lang/String" "value" "[B" fV s ∧ Found "java/lang/String" "coder" "B" fC s ∧ Ch b A s ∧ StaticIs s "java/lang/String" "COMPACT_STRINGS" "Z" (.int z) ∧ ¬ z = 0 ∧ 0 < A.slots.size ∧ A.slots.size ≤ 536870912 ∧ ∀ i, i < A.slots.size → ¬ 255 < cv A i
def E (a : Addr) (D : Cell) (fV fC : Field) (A : Cell) (r : Option Value) (s u : State) : Prop := Got a D fV fC A 0 A.slots.size r s u
/-- new String(chars), not empty, no char above 255: a Latin-1 String of their low bytes -/
theorem law (l : Launch) (a : Addr) (D : Cell) (fV fC : Field) (b : Addr) (A : Cell) (z : Int32) : Law l yN 2 1 3 52 yB 2 none site (P a D fV fC b A z) (E a D fV fC A) [⟨a, fC.slot⟩, ⟨a, fV.slot⟩] 1 A.slots.size := by
  refine Law.of_walk (plainFor_of_name (by decide +kernel)) (by decide +kernel) (by decide +kernel) (by decide) (fun _ _ h => by rw [h.1]; rfl) (fun _ U U' hal hh h => ⟨h.1, h.2.1.mv hal hh, h.2.2.1.al hal, h.2.2.2.1.al hal, h.2.2.2.2.1.mv hal hh, h.2.2.2.2.2.1.there hal hh, h.2.2.2.2.2.2⟩) (fun r U U' V V' h1 hal h2 h => Got.mv r U U' V V' h1 hal h2 h) ?_
  intro p e s m args below meth c s₁ X0 hexec hbytes hml hret hlk hnm hown hh0 W hP
  obtain ⟨rfl, hB, f1, f2, hA, s1, hz, l0, l2, hp⟩ := hP
  have c1 : Steps p.tables e below (s₁.setTop (entryFrame m #[.ref a, .ref b] 2)) (s₁.setTop (mkF m 0 #[.val (.ref a), .val (.ref b)] [])) := entry rfl
  have c2 : Steps p.tables e below (s₁.setTop (entryFrame m #[.ref a, .ref b] 2)) (s₁.setTop (mkF m 6 #[.val (.ref a), .val (.ref b)] [.null, .int (Int32.ofNat A.slots.size), .int 0, .ref b, .ref a])) := c1.trans (by
    refine XS.aloadN X0.here hexec rfl (hb hbytes d0) rfl rfl ?_
    refine XS.aloadN X0.here hexec rfl (hb hbytes d1) rfl rfl ?_
    refine iconstV X0.here hexec rfl 0 (hb hbytes d2) (by decide) ?_
    refine XS.aloadN X0.here hexec rfl (hb hbytes d3) rfl rfl ?_
    refine X0.alen hexec (hA.1.mv X0.warmed.alike hh0) rfl rfl (hb hbytes d4) ?_
    refine XS.aconstNull X0.here hexec rfl (hb hbytes d5) ?_
    exact Steps.refl _)
  obtain ⟨v3, T3, X3, E3, g3⟩ := X0.callN hexec (New4.law l a D fV fC b A z 0 A.slots.size) rfl hown (wks W (initW "java/lang/String" 27 New4.yN)) (W New4.tab (by simp only [site, List.mem_cons, List.mem_append, true_or, or_true])) (W := 0) (Nat.le_of_ble_eq_true rfl) (Nat.le_of_ble_eq_true rfl) (Nat.le_refl _) (by show 0 + A.slots.size ≤ A.slots.size; omega) (g := (mkF m 6 #[.val (.ref a), .val (.ref b)] [.null, .int (Int32.ofNat A.slots.size), .int (Int32.ofNat 0), .ref b, .ref a])) rfl (by rw [hml]; rfl) c2 (argsL := [.ref b, .int (Int32.ofNat 0), .int (Int32.ofNat A.slots.size), .null]) (rest := []) rfl rfl (by show 2 * 0 + 0 ≤ _; decide) (hb hbytes d6) (⟨rfl, hB.mv X0.warmed.alike hh0, f1.al X0.warmed.alike, f2.al X0.warmed.alike, hA.mv X0.warmed.alike hh0, s1.there X0.warmed.alike hh0, hz, l0, by omega, l2, fun i hi => by rw [Nat.zero_add]; exact hp i hi⟩)
  have e0 := Got.mv _ s₁ s _ _ hh0.symm (Vm.Alike.refl _) rfl E3
  obtain rfl := e0.1
  have c4 : Steps p.tables e below (s₁.setTop (entryFrame m #[.ref a, .ref b] 2)) (T3.setTop (mkF m 9 #[.val (.ref a), .val (.ref b)] [])) := g3
  exact ⟨T3, none, _, _, _, X3, by simp, rfl, by omega, (fun _ => rfl), e0, fun fs hl => c4.trans (X3.returnOut hexec hret (hb hbytes d9) hl)⟩
theorem pays {l : Launch} {R : Room} {p : Program} {e : Env} {below : List Frame} {s : State} {sargs : Array Value} {len W : Nat} (a : Addr) (D : Cell) (fV fC : Field) (b : Addr) (A : Cell) (z : Int32) (htab : tab.before sargs s = true) (hfr : 4 ≤ R.frames) (hlo : W + 65 ≤ R.locals) :
    Back l R p e below s sargs yN len W (fun A₁ a₁ => A₁.cells + 1 ≤ R.cells ∧ A₁.slots + A.slots.size ≤ R.slots ∧ P a D fV fC b A z a₁ A₁.U) (fun A₁ _ v₁ B₁ => E a D fV fC A v₁ A₁.U B₁.U ∧ B₁.locs = A₁.locs ++ [⟨a, fC.slot⟩, ⟨a, fV.slot⟩] ∧ B₁.cells = A₁.cells + 1 ∧ B₁.slots = A₁.slots + A.slots.size) :=
  (law l a D fV fC b A z).pays htab hfr (by omega)
end New1
/-- the byte, read back as charAt reads it, is the char -/
theorem lo8_mask {x : Int32} (h0 : ¬ x < 0) (h1 : ¬ 255 < x) : lo8 x &&& 255 = x := by
  have t : ∀ k : Fin 256, lo8 (Int32.ofNat k.val) &&& 255 = Int32.ofNat k.val := by decide +kernel
  rw [Int32.lt_iff_toInt_lt] at h0 h1
  have e0 : (0 : Int32).toInt = 0 := rfl
  have e1 : (255 : Int32).toInt = 255 := rfl
  obtain ⟨k, hk⟩ : ∃ k : Nat, x.toInt = k := ⟨x.toInt.toNat, by omega⟩
  have hx : x = Int32.ofNat k := Int32.toInt_inj.mp (by rw [hk, Int32.toInt_ofNat_small (by omega)])
  rw [hx]
  exact t ⟨k, by omega⟩
end StrChars
namespace StrChars.Road
open Jvm Sem ClassFile Op Lib Jvm.Stand Jvm.Free Jvm.Free.XT
open Jvm.Lib.Cold (StaticIs)
abbrev ST : String := "java/lang/String"
/-- every table word that New1's law asks, flat -/
abbrev words : List Jvm.Cond := [.code New1.yN New1.yB 2 none, .initialized ST, .methodLink ST 27 New4.yN, .instanceMethod New4.yN,
  .code New4.yN New4.yB 6 none, .fieldLink ST 38 ST "COMPACT_STRINGS" "Z", .laysFinal ST ST "value" "[B", .fieldLink ST 9 ST "value" "[B", .laysFinal ST ST "coder" "B", .fieldLink ST 15 ST "coder" "B",
  .methodLink ST 1 Lib.objectInit, .instanceMethod Lib.objectInit, .code Lib.objectInit ⟨#[0xb1]⟩ 1 none, .methodLink ST 177 Cmp3.yN, .static Cmp3.yN, .methodLink ST 47 CodL.yN, .static CodL.yN,
  .code Cmp3.yN Cmp3.yB 6 (some (.array .byte)), .initialized U16, .arrayClass .byte, .methodLink U16 115 Cmp5.yN, .static Cmp5.yN, .code Cmp5.yN Cmp5.yB 7 (some .int), .code CodL.yN CodL.yB 2 (some .byte)]
theorem tab_of {a : Array Value} {s : State} (h : ∀ w ∈ words, w.before a s = true) : New1.tab.before a s = true := by
  have h5 : Cmp5.tab.before a s = true := unparts (wk h (.code Cmp5.yN Cmp5.yB 7 (some .int))) (wks h (.initialized Cmp5.yN.cls :: Cmp5.site))
  have hc : CodL.tab.before a s = true := unparts (wk h (.code CodL.yN CodL.yB 2 (some .byte))) (wks h (.initialized CodL.yN.cls :: CodL.site))
  have q5 : ∀ w ∈ Cmp5.tab :: words, w.before a s = true := fun w hw => (List.mem_cons.mp hw).elim (fun e => e ▸ h5) (h w)
  have h3 : Cmp3.tab.before a s = true := unparts (wk q5 (.code Cmp3.yN Cmp3.yB 6 (some (.array .byte)))) (wks q5 (.initialized Cmp3.yN.cls :: Cmp3.site))
  have q3 : ∀ w ∈ Cmp3.tab :: CodL.tab :: words, w.before a s = true := fun w hw => (List.mem_cons.mp hw).elim (fun e => e ▸ h3) fun hw => (List.mem_cons.mp hw).elim (fun e => e ▸ hc) (h w)
  have h4 : New4.tab.before a s = true := unparts (wk q3 (.code New4.yN New4.yB 6 none)) (wks q3 (.initialized New4.yN.cls :: New4.site))
  have q4 : ∀ w ∈ New4.tab :: words, w.before a s = true := fun w hw => (List.mem_cons.mp hw).elim (fun e => e ▸ h4) (h w)
  exact unparts (wk q4 (.code New1.yN New1.yB 2 none)) (wks q4 (.initialized New1.yN.cls :: New1.site))
/-- the words ride from the start Z to the walk's own state -/
theorem moved {Z s : State} {a0 args : Array Value} (hZ : Z.Warmed39 s.vm) (hw : ∀ d ∈ words, d.before a0 Z = true) : ∀ d ∈ words, d.before args s = true := fun d hd => by
  have q := hw d hd
  have t : ∀ d ∈ words, d = .arrayClass .byte ∨ (d.onTables && d.keepsFace) = true := by decide +kernel
  rcases t d hd with rfl | t
  · exact RoadKit.mvA hZ q
  · exact RoadKit.mv hZ q t
/-- WHAT COMES BACK, over the tables of the start Z: h the heap at the call, h' behind it -/
def Q (Z : State) (x : Addr) (A : Cell) (h : Heap) (v : Option Value) (h' : Heap) (L : List Loc) : Prop := v = none ∧ (∀ y ∈ L, y.base = x) ∧ RoadKit.Keep h h' [x] ∧ h'.size = h.size + 1 ∧ RoadKit.Exa Z h' x ST ∧ RoadKit.Fld Z h' x ST "value" "[B" (.ref h.size) ∧ RoadKit.Fld Z h' x ST "coder" "B" (.int 0) ∧
  (∃ V : Cell, RoadKit.Arr Z h' h.size V .byte ∧ V.vm = .none ∧ Z.vm.findClass "[B" = some V.cls ∧ V.slots.size = A.slots.size ∧ ∀ j, j < A.slots.size → V.slots[j]? = some (.int (lo8 (cv A j)))) ∧
  ∀ (O n d : String) (w : Value), RoadKit.Fld Z h x O n d w → RoadKit.slotOf Z O n d ≠ RoadKit.slotOf Z ST "value" "[B" → RoadKit.slotOf Z O n d ≠ RoadKit.slotOf Z ST "coder" "B" → RoadKit.Fld Z h' x O n d w
/-- **new String(chars) AT A CALL, IN THE ROAD'S FORM**: for specialBack behind newO: x the fresh String, b the char[] with the cell A -/
theorem back {p : Program} {l : Launch} {e : Env} {R : Room} {s : State} {args : Array Value} {below : List Frame} {len W : Nat} {Z : State} {a0 : Array Value} {h : Heap} (hZ : Z.Warmed39 s.vm) (hw : ∀ d ∈ words, d.before a0 Z = true) {kI : Nat} (wi : (Jvm.Cond.instantiable ST kI).before a0 Z = true)
    {x b : Addr} {A : Cell} {z : Int32} {v0 c0 : Value} (E : RoadKit.Exa Z h x ST) (V : RoadKit.Fld Z h x ST "value" "[B" v0) (C : RoadKit.Fld Z h x ST "coder" "B" c0) (K : RoadKit.Arr Z h b A .char) (hty : Typed .char A) (S : RoadKit.Sta Z h ST "COMPACT_STRINGS" "Z" (.int z)) (hz : ¬ z = 0)
    (l0 : 0 < A.slots.size) (l2 : A.slots.size ≤ 536870912) (hp : ∀ i, i < A.slots.size → ¬ 255 < cv A i) (hfr : 4 ≤ R.frames) (hlo : W + 65 ≤ R.locals) :
    Back l R p e below s args New1.yN len W (fun P a => a = #[.ref x, .ref b] ∧ P.U.heap = h ∧ P.cells + 1 ≤ R.cells ∧ P.slots + A.slots.size ≤ R.slots)
      (fun P _ v B => ∃ L, Q Z x A h v B.U.heap L ∧ B.locs = P.locs ++ L ∧ B.cells = P.cells + 1 ∧ B.slots = P.slots + A.slots.size) := by
  intro m meth c P g ig mk a X hg hsize hdg hW hn hp'
  obtain ⟨rfl, rfl, r1, r2⟩ := hp'
  have al : Z.vm.Alike P.U.vm := hZ.alike.trans X.warmed.alike
  obtain ⟨D, cfV, kV, iV, fV, hD, gV, stV, knV, obV, asV, slV⟩ := id V
  obtain ⟨D', cfC, kC, iC, fC, hD', gC, stC, -, -, asC, slC⟩ := id C
  cases hD.symm.trans hD'
  obtain ⟨D2, kD, e1, e2, e3, e4, e5⟩ := id E
  cases hD.symm.trans e1
  obtain ⟨c2, k2, i1, i2, i3, -⟩ := Cond.instantiable_spec wi
  cases e2.symm.trans i1
  cases e3.symm.trans i2
  obtain ⟨kU, u1, u2⟩ := al.2.2 _ _ e3
  have hB : Blank ST x D P.U := ⟨hD, ⟨knV, fun q hq => by rw [hq] at obV; cases obV⟩, by rw [al.findClass]; exact e2, kU, u1, by rw [u2]; exact i3, by rw [u2]; exact e5 i3⟩
  have F1 : Found ST "value" "[B" fV P.U := ⟨SBG.found_only al ⟨cfV, kV, iV, gV⟩, stV⟩
  have F2 : Found ST "coder" "B" fC P.U := ⟨SBG.found_only al ⟨cfC, kC, iC, gC⟩, stC⟩
  have hA : Ch b A P.U := ⟨⟨K.1, State.isArrayOf_alike al K.2.1, K.2.2, by omega⟩, hty⟩
  have hS : StaticIs P.U ST "COMPACT_STRINGS" "Z" (.int z) := by
    obtain ⟨cfS, iS, kS, fS, st, cS, t1, t2, t3, t4, t5, t6, t7⟩ := S
    exact StaticIs.there (s := { Z with heap := P.U.heap }) ⟨cfS, iS, kS, fS, st, cS, t1, t2, t3, t4, t5, (fun q => by rw [q] at t6; cases t6), t7⟩ al rfl
  obtain ⟨v, B, X', ⟨⟨hv, E', V', q1, q2, q3, q4, q5, q6, q7, q8, q9, q10, q11⟩, hl, hc, hs⟩, st⟩ := New1.pays x D fV fC b A z (tab_of (moved hZ hw)) hfr hlo m meth c P g ig mk _ X hg hsize hdg hW hn ⟨r1, r2, rfl, hB, F1, F2, hA, hS, hz, l0, l2, hp⟩
  have al' : Z.vm.Alike B.U.vm := hZ.alike.trans X'.warmed.alike
  have hsz : E'.slots.size = D.slots.size := by
    obtain ⟨-, -, -, kB, w1, w2, w3⟩ := q1
    obtain ⟨kB', y1, y2⟩ := al'.2.2 _ _ e3
    rw [q2.2.1] at w1
    cases w1.symm.trans y1
    rw [w3, e5 i3, y2]
  refine ⟨v, B, X', ⟨_, ⟨hv, ?_, ⟨by omega, fun y cy hy hn' => q10 y cy (by simpa using hn') hy, fun y cy hy => ?_⟩, q11, ⟨E', _, q1.1, by rw [q2.2.1]; exact e2, by rw [q2.2.1]; exact e3, by rw [q2.1]; exact obV, fun _ => by rw [hsz]; exact e5 i3⟩,
    ⟨E', cfV, kV, iV, fV, q1.1, gV, stV, by rw [q2.1]; exact knV, by rw [q2.1]; exact obV, by rw [q2.2.1]; exact asV, q3⟩, ⟨E', cfC, kC, iC, fC, q1.1, gC, stC, by rw [q2.1]; exact knV, by rw [q2.1]; exact obV, by rw [q2.2.1]; exact asC, q4⟩,
    ⟨V', ⟨q5.1, State.isArrayOf_alike al'.symm q5.2.1, q5.2.2.1⟩, q6, by rw [← al'.findClass]; exact q7, q8, fun j hj => by have := q9 j hj; rwa [Nat.zero_add] at this⟩, fun O n d w F n1 n2 => ?_⟩, hl, hc, hs⟩, st⟩
  · intro y hy
    simp only [List.mem_cons, List.not_mem_nil, or_false] at hy
    rcases hy with rfl | rfl <;> rfl
  · by_cases q : y = x
    · subst q
      cases hD.symm.trans hy
      exact ⟨E', q1.1, q2.2.1, q2.1, hsz⟩
    · exact ⟨cy, q10 y cy q hy, rfl, rfl, rfl⟩
  · obtain ⟨D3, cf, k, i, f, g1, g2, g3, g4, g5, g6, g7⟩ := F
    cases hD.symm.trans g1
    simp only [RoadKit.slotOf, g2, gV, gC, Option.map_some, Option.getD_some] at n1 n2
    exact ⟨E', cf, k, i, f, q1.1, g2, g3, by rw [q2.1]; exact g4, by rw [q2.1]; exact g5, by rw [q2.2.1]; exact g6, by rw [q2.2.2 f.slot (by simp [n1, n2])]; exact g7⟩
end StrChars.Road
namespace StrChars.Road
open Jvm Sem ClassFile Op Lib Jvm.Stand Jvm.Free Jvm.Free.XT
/-- WHAT COMES BACK, the byte[] as a list of values -/
def QA (Z : State) (x : Addr) (zn : Int32) (cs : List Int32) (h : Heap) (v : Option Value) (h' : Heap) (L : List Loc) : Prop := v = none ∧ (∀ y ∈ L, y.base = x) ∧ RoadKit.Keep h h' [x] ∧ h'.size = h.size + 1 ∧ RoadKit.Exa Z h' x ST ∧ RoadKit.Fld Z h' x ST "value" "[B" (.ref h.size) ∧ RoadKit.Fld Z h' x ST "coder" "B" (.int 0) ∧
  (∃ kb, Z.vm.findClass "[B" = some kb ∧ RoadKit.Arv Z h' h.size kb .byte zn (cs.map fun c => .int (lo8 c)) (.int 0)) ∧
  ∀ (O n d : String) (w : Value), RoadKit.Fld Z h x O n d w → RoadKit.slotOf Z O n d ≠ RoadKit.slotOf Z ST "value" "[B" → RoadKit.slotOf Z O n d ≠ RoadKit.slotOf Z ST "coder" "B" → RoadKit.Fld Z h' x O n d w
/-- **new String(chars) AT A CALL, THE ARRAYS AS LISTS**: the char[] at b holds cs, not empty, no char above 255 -/
theorem backArv {p : Program} {l : Launch} {e : Env} {R : Room} {s : State} {args : Array Value} {below : List Frame} {len W : Nat} {Z : State} {a0 : Array Value} {h : Heap} (hZ : Z.Warmed39 s.vm) (hw : ∀ d ∈ words, d.before a0 Z = true) {kI : Nat} (wi : (Jvm.Cond.instantiable ST kI).before a0 Z = true)
    {x b : Addr} {k : ClassId} {zn z : Int32} {cs : List Int32} {dv v0 c0 : Value} (E : RoadKit.Exa Z h x ST) (V : RoadKit.Fld Z h x ST "value" "[B" v0) (C : RoadKit.Fld Z h x ST "coder" "B" c0) (K : RoadKit.Arv Z h b k .char zn (cs.map Value.int) dv) (S : RoadKit.Sta Z h ST "COMPACT_STRINGS" "Z" (.int z)) (hz : ¬ z = 0)
    (hlen : zn.toNatClampNeg = cs.length) (h0 : 0 < cs.length) (hbig : cs.length ≤ 536870912) (hall : ∀ c ∈ cs, ¬ 255 < c) (hfr : 4 ≤ R.frames) (hlo : W + 65 ≤ R.locals) :
    Back l R p e below s args New1.yN len W (fun P a => a = #[.ref x, .ref b] ∧ P.U.heap = h ∧ P.cells + 1 ≤ R.cells ∧ P.slots + cs.length ≤ R.slots)
      (fun P _ v B => ∃ L, QA Z x zn cs h v B.U.heap L ∧ B.locs = P.locs ++ L ∧ B.cells = P.cells + 1 ∧ B.slots = P.slots + cs.length) := by
  obtain ⟨A, K1, K2, K3, K4, K5, K6⟩ := K
  have e : A.slots.size = cs.length := K3.trans hlen
  have hat : ∀ (i : Nat) (hi : i < cs.length), A.slots[i]? = some (.int cs[i]) := fun i hi => by rw [K5 i (by omega)]; simp [List.getD_eq_getElem?_getD, hi]
  have hcv : ∀ (i : Nat) (hi : i < cs.length), cv A i = cs[i] := fun i hi => by unfold cv; rw [hat i hi]
  have hty : Typed .char A := fun i v hv => by
    have hi : i < A.slots.size := (Array.getElem?_eq_some_iff.mp hv).1
    have q := K5 i hi
    rw [hv] at q
    rw [Option.some.inj q]
    exact K6 i hi
  refine Back.mono (back hZ hw wi E V C K1 hty S hz (by omega) (by omega) (fun i hi => by rw [hcv i (by omega)]; exact hall _ (List.getElem_mem _)) hfr hlo) (fun P a hp => ⟨hp.1, hp.2.1, hp.2.2.1, by rw [e]; exact hp.2.2.2⟩) (fun P a v B hp hq => ?_)
  obtain ⟨L, ⟨q1, q2, q3, q4, q5, q6, q7, ⟨V', v1, v2, v3, v4, v5⟩, q9⟩, hl, hc, hs⟩ := hq
  refine ⟨L, ⟨q1, q2, q3, q4, q5, q6, q7, ⟨V'.cls, v3, V', v1, rfl, by rw [v4, e, hlen], K4, fun i hi => ?_, fun i hi => ?_⟩, q9⟩, hl, hc, by rw [hs, e]⟩
  · have hi' : i < cs.length := by omega
    rw [v5 i (by omega), hcv i hi']; simp [List.getD_eq_getElem?_getD, hi']
  · have hi' : i < cs.length := by omega
    simp only [List.getD_eq_getElem?_getD, List.getElem?_map, List.getElem?_eq_getElem hi', Option.map_some, Option.getD_some]
    exact fits_lo8 _
end StrChars.Road
namespace StrChars.Road
open Jvm Sem ClassFile Op Lib Jvm.Stand Jvm.Free Jvm.Free.XT
/-- WHAT COMES BACK, in the writer's own shape -/
def QV (Z : State) (x : Addr) (N : Int32) (bs : List Int32) (h : Heap) (n0 : Nat) (v : Option Value) (h' : Heap) (L : List Loc) : Prop := v = none ∧ RoadKit.Fr n0 L ∧ RoadKit.Keep h h' [x] ∧ RoadKit.Exa Z h' x ST ∧ RoadKit.Fld Z h' x ST "coder" "B" (.int 0) ∧
  ∃ (t : Addr) (kb : ClassId), n0 ≤ t ∧ h.size ≤ t ∧ ¬ t = x ∧ RoadKit.Fld Z h' x ST "value" "[B" (.ref t) ∧ RoadKit.Arv Z h' t kb .byte N (bs.map Value.int) (.int 0)
/-- **new String(chars) AT A CALL, FOR THE WRITER**: a char[] of n known ints, each 0 to 255 -/
theorem backV {p : Program} {l : Launch} {e : Env} {R : Room} {s : State} {args : Array Value} {below : List Frame} {len W : Nat} {Z : State} {a0 : Array Value} {h : Heap} (hZ : Z.Warmed39 s.vm) (hw : ∀ d ∈ words, d.before a0 Z = true) {kI : Nat} (wi : (Jvm.Cond.instantiable ST kI).before a0 Z = true)
    {x b : Addr} {kC : ClassId} {cs bs : List Int32} {d v0 c0 : Value} {z N : Int32} {n n0 : Nat} (hx0 : n0 ≤ x) (hh0 : n0 ≤ h.size) (E : RoadKit.Exa Z h x ST) (V : RoadKit.Fld Z h x ST "value" "[B" v0) (C : RoadKit.Fld Z h x ST "coder" "B" c0) (K : RoadKit.Arv Z h b kC .char N (cs.map Value.int) d) (S : RoadKit.Sta Z h ST "COMPACT_STRINGS" "Z" (.int z)) (hz : ¬ z = 0)
    (hn : cs.length = n) (hN : N = Int32.ofNat n) (l0 : 0 < n) (l2 : n ≤ 4000) (hp : ∀ c ∈ cs, ¬ c < 0 ∧ ¬ (255 : Int32) < c) (hb : bs = cs.map (fun c => c.toInt8.toInt32)) (hfr : 4 ≤ R.frames) (hlo : W + 65 ≤ R.locals) :
    Back l R p e below s args (⟨"java/lang/String", "<init>", "([C)V"⟩ : MethodName) len W (fun P a => a = #[.ref x, .ref b] ∧ P.U.heap = h ∧ P.cells + 1 ≤ R.cells ∧ P.slots + n ≤ R.slots)
      (fun P _ v B => ∃ L, QV Z x N bs h n0 v B.U.heap L ∧ B.locs = P.locs ++ L ∧ B.cells = P.cells + 1 ∧ B.slots = P.slots + n) := by
  subst hn hN hb
  refine Back.mono (backArv hZ hw wi E V C K S hz (n32 (by omega)) l0 (by omega) (fun c hc => (hp c hc).2) hfr hlo) (fun P a hp => hp) (fun P a v B hp hq => ?_)
  obtain ⟨L, ⟨q1, q2, q3, q4, q5, q6, q7, ⟨kb, v1, v2⟩, q9⟩, hl, hc, hs⟩ := hq
  exact ⟨L, ⟨q1, fun y hy => by rw [q2 y hy]; exact hx0, q3, q5, q7, h.size, kb, hh0, Nat.le_refl _, Nat.ne_of_gt E.lt, q6, by rw [List.map_map]; exact v2⟩, hl, hc, hs⟩
end StrChars.Road
namespace StrChars
open Jvm Sem ClassFile Op Lib Jvm.Stand Jvm.Free.XT Jvm.Free.ALB Jvm.Free.JM Jvm.Free
open Jvm.Lib.Cold (StaticIs)
def hi8 (x : Int32) : Int32 := lo8 (x >>> ((8 : Int32) &&& 31))
/-- what StringUTF16.getChar makes of two bytes -/
def pairCh (u v : Int32) : Int32 := (((u &&& 255) <<< ((0 : Int32) &&& 31)) ||| ((v &&& 255) <<< ((8 : Int32) &&& 31))).toUInt32.toUInt16.toUInt32.toInt32
theorem lo8_and (x : Int32) : (lo8 x &&& 255).toBitVec.toNat = x.toBitVec.toNat % 256 := by
  have h : (lo8 x).toBitVec = (x.toBitVec.signExtend 8).signExtend 32 := by rw [lo8, Int8.toBitVec_toInt32, Int32.toBitVec_toInt8]
  rw [Int32.toBitVec_and, BitVec.toNat_and, h]
  have e : ((x.toBitVec.signExtend 8).signExtend 32).toNat % 256 = x.toBitVec.toNat % 256 := by
    rw [BitVec.toNat_signExtend]
    have hlt := x.toBitVec.isLt
    simp only [BitVec.toNat_setWidth, BitVec.toNat_signExtend]
    split <;> split <;> omega
  rw [← e]
  exact Nat.and_two_pow_sub_one_eq_mod _ 8
theorem pair_says {c : Int32} (h0 : ¬ c < 0) (h1 : ¬ 65535 < c) : pairCh (lo8 c) (hi8 c) = c := by
  rw [Int32.lt_iff_toInt_lt] at h0 h1
  have e0 : (0 : Int32).toInt = 0 := rfl
  have e1 : (65535 : Int32).toInt = 65535 := rfl
  have hc : c.toInt = c.toBitVec.toNat := by
    have := c.toBitVec.isLt
    have e : c.toInt = c.toBitVec.toInt := rfl
    rw [e] at h0 h1
    rw [e]
    rw [BitVec.toInt_eq_toNat_cond] at h0 h1 ⊢
    split at h0 <;> split <;> omega
  have hn : c.toBitVec.toNat < 65536 := by omega
  have a1 := lo8_and c
  have a2 : (hi8 c &&& 255).toBitVec.toNat = c.toBitVec.toNat / 256 := by
    rw [hi8, lo8_and]
    have e : ((8 : Int32) &&& 31) = 8 := by decide
    rw [e, Int32.toBitVec_shiftRight]
    have e2 : ((8 : Int32).toBitVec.smod 32) = 8#32 := by decide
    rw [e2, BitVec.sshiftRight_eq', BitVec.toNat_sshiftRight_of_msb_false (by rw [BitVec.msb_eq_false_iff_two_mul_lt]; omega)]
    show c.toBitVec.toNat >>> 8 % 256 = _
    rw [Nat.shiftRight_eq_div_pow]
    omega
  unfold pairCh
  apply Int32.toBitVec_inj.mp
  apply BitVec.eq_of_toNat_eq
  have f0 : ((0 : Int32) &&& 31) = 0 := by decide
  have f8 : ((8 : Int32) &&& 31) = 8 := by decide
  rw [f0, f8]
  have g : (((lo8 c &&& 255) <<< (0 : Int32)) ||| ((hi8 c &&& 255) <<< (8 : Int32))).toBitVec.toNat = c.toBitVec.toNat := by
    rw [Int32.toBitVec_or, Int32.toBitVec_shiftLeft, Int32.toBitVec_shiftLeft]
    have s0 : ((0 : Int32).toBitVec.smod 32) = 0#32 := by decide
    have s8 : ((8 : Int32).toBitVec.smod 32) = 8#32 := by decide
    rw [s0, s8, BitVec.toNat_or]
    simp only [BitVec.shiftLeft_eq', BitVec.toNat_shiftLeft, a1, a2]
    show (c.toBitVec.toNat % 256) <<< 0 % 2 ^ 32 ||| (c.toBitVec.toNat / 256) <<< 8 % 2 ^ 32 = _
    rw [Nat.shiftLeft_zero, Nat.mod_eq_of_lt (show c.toBitVec.toNat % 256 < 2 ^ 32 by omega), Nat.mod_eq_of_lt (show (c.toBitVec.toNat / 256) <<< 8 < 2 ^ 32 by rw [Nat.shiftLeft_eq]; omega), Nat.or_comm, ← Nat.shiftLeft_add_eq_or_of_lt (by omega), Nat.shiftLeft_eq]
    omega
  show BitVec.toNat (((((lo8 c &&& 255) <<< (0 : Int32)) ||| ((hi8 c &&& 255) <<< (8 : Int32))).toBitVec.setWidth 16).setWidth 32) = _
  rw [BitVec.toNat_setWidth, BitVec.toNat_setWidth, g]
  omega
end StrChars
namespace StrChars
open Jvm Sem ClassFile Op Lib Jvm.Stand Jvm.Free.XT Jvm.Free.ALB Jvm.Free.JM Jvm.Free
open Jvm.Lib.Cold (StaticIs)
/-- the array's cell V codes the n chars f 0 .. f (n - 1) by the coder cd, as the JDK does: coder 1 just where some char is above 255 -/
def Cod (cd : Int32) (n : Nat) (f : Nat → Int32) (V : Cell) : Prop := (cd = 0 ∧ V.slots.size = n ∧ ∀ j, j < n → V.slots[j]? = some (.int (lo8 (f j))) ∧ ¬ 255 < f j) ∨ (cd = 1 ∧ V.slots.size = 2 * n ∧ (∀ j, j < n → V.slots[2 * j]? = some (.int (lo8 (f j))) ∧ V.slots[2 * j + 1]? = some (.int (hi8 (f j)))) ∧ ∃ j, j < n ∧ 255 < f j)
/-- **x is a String of the n chars f 0 .. f (n - 1)**, Latin-1 or UTF-16; its array at t has the cell V -/
def Txt (x t : Addr) (V : Cell) (cd : Int32) (n : Nat) (f : Nat → Int32) (U : State) : Prop := Exact "java/lang/String" x U ∧ Has x "java/lang/String" "value" "[B" (.ref t) U ∧ Has x "java/lang/String" "coder" "B" (.int cd) U ∧ XT.Arr .byte t V U ∧ Cod cd n f V ∧ ∀ j, j < n → ¬ f j < 0 ∧ ¬ 65535 < f j
theorem Txt.mv {x t : Addr} {V : Cell} {cd : Int32} {n : Nat} {f : Nat → Int32} {U U' : State} (h : Txt x t V cd n f U) (hal : U.vm.Alike U'.vm) (hh : U'.heap = U.heap) : Txt x t V cd n f U' := ⟨h.1.mv hal hh, h.2.1.mv hal hh, h.2.2.1.mv hal hh, h.2.2.2.1.mv hal hh, h.2.2.2.2⟩
end StrChars
namespace StrChars.Road
open Jvm Sem ClassFile Op Lib Jvm.Stand Jvm.Free Jvm.Free.XT
open Jvm.Lib.Cold (StaticIs)
theorem consq {a : Array Value} {s : State} {c : Jvm.Cond} {L : List Jvm.Cond} (h0 : c.before a s = true) (h : ∀ w ∈ L, w.before a s = true) : ∀ w ∈ c :: L, w.before a s = true := fun w hw => (List.mem_cons.mp hw).elim (fun e => e ▸ h0) (h w)
/-- the bytes of the chars cs, low before high -/
def wideBytes : List Int32 → List Value
  | [] => []
  | c :: cs => .int (lo8 c) :: .int (hi8 c) :: wideBytes cs
theorem wide_lo (d : Value) : ∀ (cs : List Int32) (j : Nat), j < cs.length → (wideBytes cs).getD (2 * j) d = .int (lo8 (cs.getD j 0))
  | [], j, h => absurd h (Nat.not_lt_zero j)
  | c :: cs, 0, _ => rfl
  | c :: cs, j + 1, h => by
    have q := wide_lo d cs j (by simpa using h)
    rw [show 2 * (j + 1) = 2 * j + 1 + 1 from by omega]
    simpa [wideBytes] using q
theorem wide_hi (d : Value) : ∀ (cs : List Int32) (j : Nat), j < cs.length → (wideBytes cs).getD (2 * j + 1) d = .int (hi8 (cs.getD j 0))
  | [], j, h => absurd h (Nat.not_lt_zero j)
  | c :: cs, 0, _ => rfl
  | c :: cs, j + 1, h => by
    have q := wide_hi d cs j (by simpa using h)
    rw [show 2 * (j + 1) + 1 = 2 * j + 1 + 1 + 1 from by omega]
    simpa [wideBytes] using q
theorem low_at (d : Value) (cs : List Int32) (j : Nat) (h : j < cs.length) : (cs.map fun c => Value.int (lo8 c)).getD j d = .int (lo8 (cs.getD j 0)) := by
  simp [List.getD_eq_getElem?_getD, h]
/-- an array of N2 bytes vs codes the chars cs by the coder cd -/
def CodA (cs : List Int32) (cd N2 : Int32) (vs : List Value) : Prop := (cd = 0 ∧ N2 = Int32.ofNat cs.length ∧ vs = (cs.map fun c => Value.int (lo8 c)) ∧ ∀ c ∈ cs, ¬ 255 < c) ∨ (cd = 1 ∧ N2 = Int32.ofNat (2 * cs.length) ∧ vs = wideBytes cs ∧ ∃ c ∈ cs, 255 < c)
theorem CodA.cod {cs : List Int32} {cd N2 : Int32} {vs : List Value} {V : Cell} (h : CodA cs cd N2 vs) (hn : 2 * cs.length < 2 ^ 31) (hs : V.slots.size = N2.toNatClampNeg) (hv : RoadKit.Has V vs (.int 0)) : Cod cd cs.length (fun j => cs.getD j 0) V := by
  rcases h with ⟨rfl, rfl, rfl, h⟩ | ⟨rfl, rfl, rfl, c, hc, hw⟩
  · rw [n32 (by omega)] at hs
    exact Or.inl ⟨rfl, hs, fun j hj => ⟨by rw [hv j (by omega), low_at _ _ _ hj], by
      have e : cs.getD j 0 = cs[j] := by simp [List.getD_eq_getElem?_getD, hj]
      show ¬ 255 < cs.getD j 0
      rw [e]; exact h _ (List.getElem_mem _)⟩⟩
  · rw [n32 (by omega)] at hs
    obtain ⟨j, hj, rfl⟩ := List.getElem_of_mem hc
    exact Or.inr ⟨rfl, hs, fun j hj => ⟨by rw [hv _ (by omega), wide_lo _ _ _ hj], by rw [hv _ (by omega), wide_hi _ _ _ hj]⟩, j, hj, by
      have e : cs.getD j 0 = cs[j] := by simp [List.getD_eq_getElem?_getD, hj]
      show 255 < cs.getD j 0
      rw [e]; exact hw⟩
/-- an object of exactly java/lang/String, its two fields found: as the laws ask it -/
theorem strObj {Z U : State} {a0 : Array Value} {kI : Nat} (wi : (Jvm.Cond.instantiable ST kI).before a0 Z = true) (al : Z.vm.Alike U.vm) {x : Addr} {v0 c0 : Value} (E : RoadKit.Exa Z U.heap x ST) (V : RoadKit.Fld Z U.heap x ST "value" "[B" v0) (C : RoadKit.Fld Z U.heap x ST "coder" "B" c0) :
    ∃ (D : Cell) (fV fC : Field), Blank ST x D U ∧ Found ST "value" "[B" fV U ∧ Found ST "coder" "B" fC U ∧ D.slots[fV.slot]? = some v0 ∧ D.slots[fC.slot]? = some c0 ∧ RoadKit.slotOf Z ST "value" "[B" = fV.slot ∧ RoadKit.slotOf Z ST "coder" "B" = fC.slot := by
  obtain ⟨D, cfV, kV, iV, fV, hD, gV, stV, knV, obV, asV, slV⟩ := V
  obtain ⟨D', cfC, kC, iC, fC, hD', gC, stC, -, -, asC, slC⟩ := C
  cases hD.symm.trans hD'
  obtain ⟨D2, kD, e1, e2, e3, e4, e5⟩ := E
  cases hD.symm.trans e1
  obtain ⟨c2, k2, i1, i2, i3, -⟩ := Cond.instantiable_spec wi
  cases e2.symm.trans i1
  cases e3.symm.trans i2
  obtain ⟨kU, u1, u2⟩ := al.2.2 _ _ e3
  exact ⟨D, fV, fC, ⟨hD, ⟨knV, fun q hq => by rw [hq] at obV; cases obV⟩, by rw [al.findClass]; exact e2, kU, u1, by rw [u2]; exact i3, by rw [u2]; exact e5 i3⟩, ⟨SBG.found_only al ⟨cfV, kV, iV, gV⟩, stV⟩, ⟨SBG.found_only al ⟨cfC, kC, iC, gC⟩, stC⟩, slV, slC, by simp [RoadKit.slotOf, gV], by simp [RoadKit.slotOf, gC]⟩
theorem sta_is {Z U : State} (al : Z.vm.Alike U.vm) {C n d : String} {v : Value} (S : RoadKit.Sta Z U.heap C n d v) : StaticIs U C n d v := by
  obtain ⟨cfS, iS, kS, fS, st, cS, t1, t2, t3, t4, t5, t6, t7⟩ := S
  exact StaticIs.there (s := { Z with heap := U.heap }) ⟨cfS, iS, kS, fS, st, cS, t1, t2, t3, t4, t5, (fun q => by rw [q] at t6; cases t6), t7⟩ al rfl
end StrChars.Road
namespace StrChars
open Jvm Sem ClassFile Op Lib Jvm.Stand Jvm.Free.XT Jvm.Free.ALB Jvm.Free.JM Jvm.Free
open Jvm.Lib.Cold (StaticIs)
namespace Emp
def yN : MethodName := ⟨"java/lang/String", "isEmpty", "()Z"⟩
abbrev yB : ByteArray := jdk_42_method_55_code
theorem d0 : decode yB 0 = .ok (.aload_n 0, 1) := by decide +kernel
theorem d1 : decode yB 1 = .ok (.getfield 9, 3) := by decide +kernel
theorem d4 : decode yB 4 = .ok (.arraylength, 1) := by decide +kernel
theorem d5 : decode yB 5 = .ok (.ifCond (.ne) 7, 3) := by decide +kernel
theorem d8 : decode yB 8 = .ok (.iconst 1, 1) := by decide +kernel
theorem d9 : decode yB 9 = .ok (.goto 4, 3) := by decide +kernel
theorem d12 : decode yB 12 = .ok (.iconst 0, 1) := by decide +kernel
theorem d13 : decode yB 13 = .ok (.ireturn, 1) := by decide +kernel
def site : List Cond := [.fieldLink "java/lang/String" 9 "java/lang/String" "value" "[B"]
def tab : Cond := tabOf yN yB 1 (some .boolean) site
def P (x t : Addr) (V : Cell) (cd : Int32) (n : Nat) (f : Nat → Int32) (args : Array Value) (s : State) : Prop := args = #[.ref x] ∧ Txt x t V cd n f s
def E (n : Nat) (r : Option Value) (s u : State) : Prop := XT.PureE (some (.int (if n = 0 then 1 else 0))) r s u
/-- isEmpty() of a String of n chars -/
theorem law (l : Launch) (x t : Addr) (V : Cell) (cd : Int32) (n : Nat) (f : Nat → Int32) : Law l yN 1 0 0 0 yB 1 (some .boolean) site (P x t V cd n f) (E n) [] 0 0 := by
  refine Law.of_walk (plainFor_of_name (by decide +kernel)) (by decide +kernel) (by decide +kernel) (by decide) (fun _ _ h => by rw [h.1]; rfl) (fun _ U U' hal hh h => ⟨h.1, h.2.mv hal hh⟩) (fun r U U' V V' h1 hal h2 h => XT.PureE.mv r U U' V V' h1 hal h2 h) ?_
  intro p e s m args below meth c s₁ X0 hexec hbytes hml hret hlk hnm hown hh0 W hP
  obtain ⟨rfl, hx⟩ := hP
  have v31 := hx.2.2.2.1.2.2.2
  have c1 : Steps p.tables e below (s₁.setTop (entryFrame m #[.ref x] 1)) (s₁.setTop (mkF m 1 #[.val (.ref x)] [.ref x])) := Steps.trans (entry rfl) (by
    show Steps p.tables e below (s₁.setTop (mkF m 0 #[.val (.ref x)] [])) _
    refine XS.aloadN X0.here hexec rfl (hb hbytes d0) rfl rfl ?_
    exact Steps.refl _)
  obtain ⟨T2, X2, q2, st2⟩ := X0.hget hexec hown (wk W (.fieldLink "java/lang/String" 9 "java/lang/String" "value" "[B")) (hx.mv X0.warmed.alike hh0).2.1 (g := (mkF m 1 #[.val (.ref x)] [.ref x])) rfl (rest := []) rfl (hb hbytes d1)
  have hh2 := q2.trans hh0
  have hx2 := hx.mv X2.warmed.alike hh2
  have c3 : Steps p.tables e below (s₁.setTop (entryFrame m #[.ref x] 1)) (T2.setTop (mkF m 5 #[.val (.ref x)] [.int (Int32.ofNat V.slots.size)])) := (c1.trans (st2 _ (Steps.refl _))).trans (by
    refine X2.alen hexec hx2.2.2.2.1 rfl rfl (hb hbytes d4) ?_
    exact Steps.refl _)
  have hz : V.slots.size = 0 ↔ n = 0 := by
    rcases hx.2.2.2.2.1 with ⟨-, q, -⟩ | ⟨-, q, -⟩ <;> omega
  by_cases h0 : n = 0
  · have c4 : Steps p.tables e below (s₁.setTop (entryFrame m #[.ref x] 1)) (T2.setTop (mkF m 13 #[.val (.ref x)] [.int 1])) := c3.trans (by
      refine XS.ifNo X2.here hexec rfl (hb hbytes d5) rfl (i0_ne_f (by rw [hz.mpr h0]; rfl)) ?_
      refine iconstV X2.here hexec rfl 1 (hb hbytes d8) (by decide) ?_
      refine XS.goto X2.here hexec rfl (pc0 := 9) rfl (hb hbytes d9) (by decide) rfl ?_
      exact Steps.refl _)
    exact ⟨T2, some (.int 1), _, _, _, X2, rfl, rfl, rfl, (fun h => by cases h), ⟨by rw [if_pos h0], hh2⟩, fun fs hl => c4.trans (X2.ireturnOut hexec hret rfl (Or.inr (Or.inl rfl)) (hb hbytes d13) hl)⟩
  · have c4 : Steps p.tables e below (s₁.setTop (entryFrame m #[.ref x] 1)) (T2.setTop (mkF m 13 #[.val (.ref x)] [.int 0])) := c3.trans (by
      refine XS.ifYes X2.here hexec rfl (pc0 := 5) rfl (hb hbytes d5) rfl (i0_ne_t (nz32 v31 (by omega))) (by decide) rfl ?_
      refine iconstV X2.here hexec rfl 0 (hb hbytes d12) (by decide) ?_
      exact Steps.refl _)
    exact ⟨T2, some (.int 0), _, _, _, X2, rfl, rfl, rfl, (fun h => by cases h), ⟨by rw [if_neg h0], hh2⟩, fun fs hl => c4.trans (X2.ireturnOut hexec hret rfl (Or.inr (Or.inl rfl)) (hb hbytes d13) hl)⟩
theorem pays {l : Launch} {R : Room} {p : Program} {e : Env} {below : List Frame} {s : State} {sargs : Array Value} {len W : Nat} (x t : Addr) (V : Cell) (cd : Int32) (n : Nat) (f : Nat → Int32) (htab : tab.before sargs s = true) (hfr : 1 ≤ R.frames) (hlo : W + 12 ≤ R.locals) :
    Back l R p e below s sargs yN len W (fun A₁ a₁ => A₁.cells + 0 ≤ R.cells ∧ A₁.slots + 0 ≤ R.slots ∧ P x t V cd n f a₁ A₁.U) (fun A₁ _ v₁ B₁ => E n v₁ A₁.U B₁.U ∧ B₁.locs = A₁.locs ++ [] ∧ B₁.cells = A₁.cells + 0 ∧ B₁.slots = A₁.slots + 0) :=
  (law l x t V cd n f).pays htab hfr (by omega)
end Emp
/-- what place i of a byte[]'s cell holds -/
def yv (A : Cell) (i : Nat) : Int32 := match A.slots[i]? with | some (.int x) => x | _ => 0
theorem yv_get {a : Addr} {A : Cell} {U : State} (h : XT.Arr .byte a A U) (ht : Typed .byte A) {i : Nat} (hi : i < A.slots.size) : A.slots[i]? = some (.int (yv A i)) := by
  have e := Array.getElem?_eq_getElem hi
  have f := ht i _ e
  unfold yv; rw [e]
  generalize A.slots[i] = v at f
  cases v <;> simp [fits] at f ⊢
/-- the two arrays are equal, place for place -/
def EqC (A B : Cell) : Prop := A.slots.size = B.slots.size ∧ ∀ i, i < A.slots.size → yv A i = yv B i
/-- a boolean that says whether p -/
def Says01 (q : Prop) (r : Option Value) (s u : State) : Prop := ∃ v : Int32, r = some (.int v) ∧ u.heap = s.heap ∧ ((v = 1 ∧ q) ∨ (v = 0 ∧ ¬ q))
theorem Says01.mv {q : Prop} : ∀ r (U U' V V' : State), U'.heap = U.heap → V.vm.Alike V'.vm → V'.heap = V.heap → Says01 q r U V → Says01 q r U' V' :=
  fun r U U' V V' h1 _ h2 ⟨v, a, b, c⟩ => ⟨v, a, by rw [h1, h2]; exact b, c⟩
namespace LEq
def yN : MethodName := ⟨"java/lang/StringLatin1", "equals", "([B[B)Z"⟩
abbrev yB : ByteArray := jdk_43_method_13_code
theorem d0 : decode yB 0 = .ok (.aload_n 0, 1) := by decide +kernel
theorem d1 : decode yB 1 = .ok (.arraylength, 1) := by decide +kernel
theorem d2 : decode yB 2 = .ok (.aload_n 1, 1) := by decide +kernel
theorem d3 : decode yB 3 = .ok (.arraylength, 1) := by decide +kernel
theorem d4 : decode yB 4 = .ok (.if_icmp (.ne) 30, 3) := by decide +kernel
theorem d7 : decode yB 7 = .ok (.iconst 0, 1) := by decide +kernel
theorem d8 : decode yB 8 = .ok (.istore_n 2, 1) := by decide +kernel
theorem d9 : decode yB 9 = .ok (.iload_n 2, 1) := by decide +kernel
theorem d10 : decode yB 10 = .ok (.aload_n 0, 1) := by decide +kernel
theorem d11 : decode yB 11 = .ok (.arraylength, 1) := by decide +kernel
theorem d12 : decode yB 12 = .ok (.if_icmp (.ge) 20, 3) := by decide +kernel
theorem d15 : decode yB 15 = .ok (.aload_n 0, 1) := by decide +kernel
theorem d16 : decode yB 16 = .ok (.iload_n 2, 1) := by decide +kernel
theorem d17 : decode yB 17 = .ok (.baload, 1) := by decide +kernel
theorem d18 : decode yB 18 = .ok (.aload_n 1, 1) := by decide +kernel
theorem d19 : decode yB 19 = .ok (.iload_n 2, 1) := by decide +kernel
theorem d20 : decode yB 20 = .ok (.baload, 1) := by decide +kernel
theorem d21 : decode yB 21 = .ok (.if_icmp (.eq) 5, 3) := by decide +kernel
theorem d24 : decode yB 24 = .ok (.iconst 0, 1) := by decide +kernel
theorem d25 : decode yB 25 = .ok (.ireturn, 1) := by decide +kernel
theorem d26 : decode yB 26 = .ok (.iinc 2 1, 3) := by decide +kernel
theorem d29 : decode yB 29 = .ok (.goto (-20), 3) := by decide +kernel
theorem d32 : decode yB 32 = .ok (.iconst 1, 1) := by decide +kernel
theorem d33 : decode yB 33 = .ok (.ireturn, 1) := by decide +kernel
theorem d34 : decode yB 34 = .ok (.iconst 0, 1) := by decide +kernel
theorem d35 : decode yB 35 = .ok (.ireturn, 1) := by decide +kernel
def site : List Cond := []
def tab : Cond := tabOf yN yB 3 (some .boolean) site
def P (a : Addr) (A : Cell) (b : Addr) (B : Cell) (args : Array Value) (s : State) : Prop := args = #[.ref a, .ref b] ∧ XT.Arr .byte a A s ∧ Typed .byte A ∧ XT.Arr .byte b B s ∧ Typed .byte B
/-- whether two byte[] are equal, place for place -/
theorem law (l : Launch) (a : Addr) (A : Cell) (b : Addr) (B : Cell) : Law l yN 2 2 0 0 yB 3 (some .boolean) site (P a A b B) (Says01 (EqC A B)) [] 0 0 := by
  refine Law.of_walk (plainFor_of_name (by decide +kernel)) (by decide +kernel) (by decide +kernel) (by decide) (fun _ _ h => by rw [h.1]; rfl) (fun _ U U' hal hh h => ⟨h.1, h.2.1.mv hal hh, h.2.2.1, h.2.2.2.1.mv hal hh, h.2.2.2.2⟩) (fun r U U' V V' h1 hal h2 h => Says01.mv r U U' V V' h1 hal h2 h) ?_
  intro p e s m args below meth c s₁ X0 hexec hbytes hml hret hlk hnm hown hh0 W hP
  obtain ⟨rfl, hA, tA, hB, tB⟩ := hP
  have a31 := hA.2.2.2
  have b31 := hB.2.2.2
  have hA0 := hA.mv X0.warmed.alike hh0
  have hB0 := hB.mv X0.warmed.alike hh0
  have c1 : Steps p.tables e below (s₁.setTop (entryFrame m #[.ref a, .ref b] 3)) (s₁.setTop (mkF m 0 #[.val (.ref a), .val (.ref b), .unset] [])) := entry rfl
  have c2 : Steps p.tables e below (s₁.setTop (entryFrame m #[.ref a, .ref b] 3)) (s₁.setTop (mkF m 4 #[.val (.ref a), .val (.ref b), .unset] [.int (Int32.ofNat B.slots.size), .int (Int32.ofNat A.slots.size)])) := c1.trans (by
    refine XS.aloadN X0.here hexec rfl (hb hbytes d0) rfl rfl ?_
    refine X0.alen hexec hA0 rfl rfl (hb hbytes d1) ?_
    refine XS.aloadN X0.here hexec rfl (hb hbytes d2) rfl rfl ?_
    refine X0.alen hexec hB0 rfl rfl (hb hbytes d3) ?_
    exact Steps.refl _)
  by_cases hs : A.slots.size = B.slots.size
  · have c3 : Steps p.tables e below (s₁.setTop (entryFrame m #[.ref a, .ref b] 3)) (s₁.setTop (mkF m 9 #[.val (.ref a), .val (.ref b), .val (.int 0)] [])) := c2.trans (by
      refine XS.icmpNo X0.here hexec rfl (hb hbytes d4) rfl (ii_ne_f (by rw [hs])) ?_
      refine iconstV X0.here hexec rfl 0 (hb hbytes d7) (by decide) ?_
      refine XS.istoreN X0.here hexec rfl (hb hbytes d8) rfl rfl ?_
      exact Steps.refl _)
    have loop : ∀ (r i : Nat), i + r = A.slots.size → (∀ j, j < i → yv A j = yv B j) → Steps p.tables e below (s₁.setTop (entryFrame m #[.ref a, .ref b] 3)) (s₁.setTop (mkF m 9 #[.val (.ref a), .val (.ref b), .val (.int (Int32.ofNat i))] [])) → ∃ (pc : Nat) (Ls : Array Slot) (v : Int32), (pc = 25 ∨ pc = 33) ∧ ((v = 1 ∧ EqC A B) ∨ (v = 0 ∧ ¬ EqC A B)) ∧ Steps p.tables e below (s₁.setTop (entryFrame m #[.ref a, .ref b] 3)) (s₁.setTop (mkF m pc Ls [.int v])) := by
      intro r
      induction r with
      | zero =>
        intro i hi he cl
        exact ⟨33, _, 1, Or.inr rfl, Or.inl ⟨rfl, hs, fun j hj => he j (by omega)⟩, cl.trans (by
          refine XS.iloadN X0.here hexec rfl (hb hbytes d9) rfl ?_
          refine XS.aloadN X0.here hexec rfl (hb hbytes d10) rfl rfl ?_
          refine X0.alen hexec hA0 rfl rfl (hb hbytes d11) ?_
          refine XS.icmpYes X0.here hexec rfl (pc0 := 12) rfl (hb hbytes d12) rfl (ii_ge_t (nlt32 (by omega) (by omega))) (by decide) rfl ?_
          refine iconstV X0.here hexec rfl 1 (hb hbytes d32) (by decide) ?_
          exact Steps.refl _)⟩
      | succ r ih =>
        intro i hi he cl
        have c4 : Steps p.tables e below (s₁.setTop (entryFrame m #[.ref a, .ref b] 3)) (s₁.setTop (mkF m 21 #[.val (.ref a), .val (.ref b), .val (.int (Int32.ofNat i))] [.int (yv B i), .int (yv A i)])) := cl.trans (by
          refine XS.iloadN X0.here hexec rfl (hb hbytes d9) rfl ?_
          refine XS.aloadN X0.here hexec rfl (hb hbytes d10) rfl rfl ?_
          refine X0.alen hexec hA0 rfl rfl (hb hbytes d11) ?_
          refine XS.icmpNo X0.here hexec rfl (hb hbytes d12) rfl (ii_ge_f (lt32 (by omega) (by omega))) ?_
          refine XS.aloadN X0.here hexec rfl (hb hbytes d15) rfl rfl ?_
          refine XS.iloadN X0.here hexec rfl (hb hbytes d16) rfl ?_
          refine X0.aget hexec hA0 rfl (yv_get hA tA (i := i) (by omega)) rfl rfl (hb hbytes d17) ?_
          refine XS.aloadN X0.here hexec rfl (hb hbytes d18) rfl rfl ?_
          refine XS.iloadN X0.here hexec rfl (hb hbytes d19) rfl ?_
          refine X0.aget hexec hB0 rfl (yv_get hB tB (i := i) (by omega)) rfl rfl (hb hbytes d20) ?_
          exact Steps.refl _)
        by_cases hv : yv A i = yv B i
        · have c5 : Steps p.tables e below (s₁.setTop (entryFrame m #[.ref a, .ref b] 3)) (s₁.setTop (mkF m 9 #[.val (.ref a), .val (.ref b), .val (.int (Int32.ofNat i + 1))] [])) := c4.trans (by
            refine XS.icmpYes X0.here hexec rfl (pc0 := 21) rfl (hb hbytes d21) rfl (ii_eq_t hv) (by decide) rfl ?_
            refine iincV X0.here hexec rfl 1 (hb hbytes d26) (by decide) rfl rfl ?_
            refine XS.goto X0.here hexec rfl (pc0 := 29) rfl (hb hbytes d29) (by decide) rfl ?_
            exact Steps.refl _)
          rw [succ32] at c5
          exact ih (i + 1) (by omega) (fun j hj => by
            by_cases e : j = i
            · rw [e]; exact hv
            · exact he j (by omega)) c5
        · exact ⟨25, _, 0, Or.inl rfl, Or.inr ⟨rfl, fun q => hv (q.2 i (by omega))⟩, c4.trans (by
            refine XS.icmpNo X0.here hexec rfl (hb hbytes d21) rfl (ii_eq_f hv) ?_
            refine iconstV X0.here hexec rfl 0 (hb hbytes d24) (by decide) ?_
            exact Steps.refl _)⟩
    obtain ⟨pc, Ls, v, hpc, hv, cz⟩ := loop A.slots.size 0 (by omega) (fun j hj => absurd hj (Nat.not_lt_zero j)) c3
    have nv : narrow .boolean (.int v) = .int v := by rcases hv with ⟨rfl, -⟩ | ⟨rfl, -⟩ <;> rfl
    rcases hpc with rfl | rfl
    · exact ⟨s₁, some (.int v), _, _, _, X0, rfl, rfl, rfl, (fun h => by cases h), ⟨v, rfl, hh0, hv⟩, fun fs hl => cz.trans (X0.ireturnOut hexec hret nv (Or.inr (Or.inl rfl)) (hb hbytes d25) hl)⟩
    · exact ⟨s₁, some (.int v), _, _, _, X0, rfl, rfl, rfl, (fun h => by cases h), ⟨v, rfl, hh0, hv⟩, fun fs hl => cz.trans (X0.ireturnOut hexec hret nv (Or.inr (Or.inl rfl)) (hb hbytes d33) hl)⟩
  · have c3 : Steps p.tables e below (s₁.setTop (entryFrame m #[.ref a, .ref b] 3)) (s₁.setTop (mkF m 35 #[.val (.ref a), .val (.ref b), .unset] [.int 0])) := c2.trans (by
      refine XS.icmpYes X0.here hexec rfl (pc0 := 4) rfl (hb hbytes d4) rfl (ii_ne_t (ne32 a31 b31 hs)) (by decide) rfl ?_
      refine iconstV X0.here hexec rfl 0 (hb hbytes d34) (by decide) ?_
      exact Steps.refl _)
    exact ⟨s₁, some (.int 0), _, _, _, X0, rfl, rfl, rfl, (fun h => by cases h), ⟨0, rfl, hh0, Or.inr ⟨rfl, fun q => hs q.1⟩⟩, fun fs hl => c3.trans (X0.ireturnOut hexec hret rfl (Or.inr (Or.inl rfl)) (hb hbytes d35) hl)⟩
end LEq
theorem Cod.ty {cd : Int32} {n : Nat} {f : Nat → Int32} {V : Cell} (h : Cod cd n f V) : Typed .byte V := fun i v hv => by
  have hi : i < V.slots.size := (Array.getElem?_eq_some_iff.mp hv).1
  rcases h with ⟨-, k1, k2⟩ | ⟨-, k1, k2, -⟩
  · rw [(k2 i (by omega)).1] at hv; cases hv; exact fits_lo8 _
  · rcases Nat.mod_two_eq_zero_or_one i with e | e
    · obtain ⟨j, rfl⟩ : ∃ j, i = 2 * j := ⟨i / 2, by omega⟩
      rw [(k2 j (by omega)).1] at hv; cases hv; exact fits_lo8 _
    · obtain ⟨j, rfl⟩ : ∃ j, i = 2 * j + 1 := ⟨i / 2, by omega⟩
      rw [(k2 j (by omega)).2] at hv; cases hv; exact fits_lo8 _
/-- the same text -/
def SameT (n : Nat) (f : Nat → Int32) (k : Nat) (g : Nat → Int32) : Prop := n = k ∧ ∀ j, j < n → f j = g j
theorem lo8_inj {x y : Int32} (h0 : ¬ x < 0) (h1 : ¬ 255 < x) (k0 : ¬ y < 0) (k1 : ¬ 255 < y) (h : lo8 x = lo8 y) : x = y := by
  rw [← lo8_mask h0 h1, ← lo8_mask k0 k1, h]
/-- arrays coded by one coder are equal just where the texts are -/
theorem Cod.eqv {cd : Int32} {n k : Nat} {f g : Nat → Int32} {V V' : Cell} (h : Cod cd n f V) (h' : Cod cd k g V') (hf : ∀ j, j < n → ¬ f j < 0 ∧ ¬ 65535 < f j) (hg : ∀ j, j < k → ¬ g j < 0 ∧ ¬ 65535 < g j) : EqC V V' ↔ SameT n f k g := by
  have yvv : ∀ {W : Cell} {i : Nat} {x : Int32}, W.slots[i]? = some (.int x) → yv W i = x := fun q => by unfold yv; rw [q]
  rcases h with ⟨rfl, k1, k2⟩ | ⟨rfl, k1, k2, -⟩
  · rcases h' with ⟨-, m1, m2⟩ | ⟨e, -⟩
    · constructor
      · rintro ⟨e1, e2⟩
        refine ⟨by omega, fun j hj => ?_⟩
        have q := e2 j (by omega)
        rw [yvv (k2 j hj).1, yvv (m2 j (by omega)).1] at q
        exact lo8_inj (hf j hj).1 (k2 j hj).2 (hg j (by omega)).1 (m2 j (by omega)).2 q
      · rintro ⟨rfl, e2⟩
        refine ⟨by omega, fun j hj => ?_⟩
        rw [yvv (k2 j (by omega)).1, yvv (m2 j (by omega)).1, e2 j (by omega)]
    · exact absurd e (by decide)
  · rcases h' with ⟨e, -⟩ | ⟨-, m1, m2, -⟩
    · exact absurd e (by decide)
    · constructor
      · rintro ⟨e1, e2⟩
        refine ⟨by omega, fun j hj => ?_⟩
        have q1 := e2 (2 * j) (by omega)
        have q2 := e2 (2 * j + 1) (by omega)
        rw [yvv (k2 j hj).1, yvv (m2 j (by omega)).1] at q1
        rw [yvv (k2 j hj).2, yvv (m2 j (by omega)).2] at q2
        rw [← pair_says (hf j hj).1 (hf j hj).2, ← pair_says (hg j (by omega)).1 (hg j (by omega)).2, q1, q2]
      · rintro ⟨rfl, e2⟩
        refine ⟨by omega, fun i hi => ?_⟩
        rcases Nat.mod_two_eq_zero_or_one i with e | e
        · obtain ⟨j, rfl⟩ : ∃ j, i = 2 * j := ⟨i / 2, by omega⟩
          rw [yvv (k2 j (by omega)).1, yvv (m2 j (by omega)).1, e2 j (by omega)]
        · obtain ⟨j, rfl⟩ : ∃ j, i = 2 * j + 1 := ⟨i / 2, by omega⟩
          rw [yvv (k2 j (by omega)).2, yvv (m2 j (by omega)).2, e2 j (by omega)]
/-- two codings differ: so do the texts -/
theorem Cod.dif {cd cd' : Int32} {n k : Nat} {f g : Nat → Int32} {V V' : Cell} (h : Cod cd n f V) (h' : Cod cd' k g V') (hne : ¬ cd = cd') : ¬ SameT n f k g := by
  rintro ⟨rfl, e⟩
  rcases h with ⟨rfl, -, k2⟩ | ⟨rfl, -, -, j, hj, hw⟩
  · rcases h' with ⟨rfl, -⟩ | ⟨-, -, -, j, hj, hw⟩
    · exact hne rfl
    · exact (k2 j hj).2 (by rw [e j hj]; exact hw)
  · rcases h' with ⟨-, -, m2⟩ | ⟨rfl, -⟩
    · exact (m2 j hj).2 (by rw [← e j hj]; exact hw)
    · exact hne rfl
/-- an object of exactly C is an instance of C -/
theorem cinst {p : Program} {l : Launch} {e : Env} {R : Room} {s : State} {m : MethodId} {args : Array Value} {below : List Frame} {meth : Method} {c : Code} {T : State} {locs : List Loc} {cells slots : Nat} (X : Stand p l e R s m args below meth c T locs cells slots) (hexec : p.tables.exec = Jvm.exec) {own C : String} {index : Nat} (hown : s.vm.findClass own = some m.cls) (hlink : (Cond.classLink own index C).before args s = true) {a : Addr} (hE : Exact C a T)
    {g : JFrame} (hg : g.method = m) {rest : List Value} (hstack : g.stack = .ref a :: rest) (hdg : decode c.code g.pc = .ok (.instanceof index, 3)) :
    ∃ T', Stand p l e R s m args below meth c T' locs cells slots ∧ T'.heap = T.heap ∧ ∀ target, Steps p.tables e below (T'.setTop { g with pc := g.pc + 3, stack := .int 1 :: rest }) target → Steps p.tables e below (T.setTop g) target := by
  obtain ⟨cB, h1, D, h2, h3, h4⟩ := hE
  have h1' : s.vm.findClass C = some cB := by rw [← X.warmed.alike.findClass]; exact h1
  obtain ⟨vm', X', st⟩ := X.instanceofYes hexec hown hlink h2 h4 h1' (by rw [h3]; exact Jvm.Free.SB.assignable_self _ _) hg hstack hdg
  exact ⟨_, X', rfl, st⟩
theorem cself {p : Program} {l : Launch} {e : Env} {R : Room} {s : State} {m : MethodId} {args : Array Value} {below : List Frame} {meth : Method} {c : Code} {T : State} {locs : List Loc} {cells slots : Nat} (X : Stand p l e R s m args below meth c T locs cells slots) (hexec : p.tables.exec = Jvm.exec) {own C : String} {index : Nat} (hown : s.vm.findClass own = some m.cls) (hlink : (Cond.classLink own index C).before args s = true) {a : Addr} (hE : Exact C a T)
    {g : JFrame} (hg : g.method = m) {rest : List Value} (hstack : g.stack = .ref a :: rest) (hdg : decode c.code g.pc = .ok (.checkcast index, 3)) :
    ∃ T', Stand p l e R s m args below meth c T' locs cells slots ∧ T'.heap = T.heap ∧ ∀ target, Steps p.tables e below (T'.setTop { g with pc := g.pc + 3, stack := .ref a :: rest }) target → Steps p.tables e below (T.setTop g) target := by
  obtain ⟨cB, h1, D, h2, h3, h4⟩ := hE
  have h1' : s.vm.findClass C = some cB := by rw [← X.warmed.alike.findClass]; exact h1
  obtain ⟨vm', X', st⟩ := X.checkcastYes hexec hown hlink h2 h4 h1' (by rw [h3]; exact Jvm.Free.SB.assignable_self _ _) hg hstack hdg
  exact ⟨_, X', rfl, fun t h => st t (by rw [← hstack] at h; exact h)⟩
namespace SEq
def yN : MethodName := ⟨"java/lang/String", "equals", "(Ljava/lang/Object;)Z"⟩
abbrev yB : ByteArray := jdk_42_method_66_code
theorem d0 : decode yB 0 = .ok (.aload_n 0, 1) := by decide +kernel
theorem d1 : decode yB 1 = .ok (.aload_n 1, 1) := by decide +kernel
theorem d2 : decode yB 2 = .ok (.if_acmp (.ne) 5, 3) := by decide +kernel
theorem d5 : decode yB 5 = .ok (.iconst 1, 1) := by decide +kernel
theorem d6 : decode yB 6 = .ok (.ireturn, 1) := by decide +kernel
theorem d7 : decode yB 7 = .ok (.aload_n 1, 1) := by decide +kernel
theorem d8 : decode yB 8 = .ok (.instanceof 10, 3) := by decide +kernel
theorem d11 : decode yB 11 = .ok (.ifCond (.eq) 43, 3) := by decide +kernel
theorem d14 : decode yB 14 = .ok (.aload_n 1, 1) := by decide +kernel
theorem d15 : decode yB 15 = .ok (.checkcast 10, 3) := by decide +kernel
theorem d18 : decode yB 18 = .ok (.astore_n 2, 1) := by decide +kernel
theorem d19 : decode yB 19 = .ok (.getstatic 38, 3) := by decide +kernel
theorem d22 : decode yB 22 = .ok (.ifCond (.eq) 14, 3) := by decide +kernel
theorem d25 : decode yB 25 = .ok (.aload_n 0, 1) := by decide +kernel
theorem d26 : decode yB 26 = .ok (.getfield 15, 3) := by decide +kernel
theorem d29 : decode yB 29 = .ok (.aload_n 2, 1) := by decide +kernel
theorem d30 : decode yB 30 = .ok (.getfield 15, 3) := by decide +kernel
theorem d33 : decode yB 33 = .ok (.if_icmp (.ne) 21, 3) := by decide +kernel
theorem d36 : decode yB 36 = .ok (.aload_n 0, 1) := by decide +kernel
theorem d37 : decode yB 37 = .ok (.getfield 9, 3) := by decide +kernel
theorem d40 : decode yB 40 = .ok (.aload_n 2, 1) := by decide +kernel
theorem d41 : decode yB 41 = .ok (.getfield 9, 3) := by decide +kernel
theorem d44 : decode yB 44 = .ok (.invokestatic 541, 3) := by decide +kernel
theorem d47 : decode yB 47 = .ok (.ifCond (.eq) 7, 3) := by decide +kernel
theorem d50 : decode yB 50 = .ok (.iconst 1, 1) := by decide +kernel
theorem d51 : decode yB 51 = .ok (.goto 4, 3) := by decide +kernel
theorem d54 : decode yB 54 = .ok (.iconst 0, 1) := by decide +kernel
theorem d55 : decode yB 55 = .ok (.ireturn, 1) := by decide +kernel
def site : List Cond := [.classLink "java/lang/String" 10 "java/lang/String", .fieldLink "java/lang/String" 38 "java/lang/String" "COMPACT_STRINGS" "Z", .fieldLink "java/lang/String" 15 "java/lang/String" "coder" "B", .fieldLink "java/lang/String" 9 "java/lang/String" "value" "[B", LEq.tab] ++ staticW "java/lang/String" 541 LEq.yN
def tab : Cond := tabOf yN yB 3 (some .boolean) site
def P (x t : Addr) (V : Cell) (cd : Int32) (n : Nat) (f : Nat → Int32) (y t' : Addr) (V' : Cell) (cd' : Int32) (k : Nat) (g : Nat → Int32) (z : Int32) (args : Array Value) (s : State) : Prop := args = #[.ref x, .ref y] ∧ Txt x t V cd n f s ∧ Txt y t' V' cd' k g s ∧ StaticIs s "java/lang/String" "COMPACT_STRINGS" "Z" (.int z) ∧ ¬ z = 0
/-- equals(Object) of two Strings: whether the texts are the same -/
theorem law (l : Launch) (x t : Addr) (V : Cell) (cd : Int32) (n : Nat) (f : Nat → Int32) (y t' : Addr) (V' : Cell) (cd' : Int32) (k : Nat) (g : Nat → Int32) (z : Int32) : Law l yN 2 1 1 14 yB 3 (some .boolean) site (P x t V cd n f y t' V' cd' k g z) (Says01 (SameT n f k g)) [] 0 0 := by
  refine Law.of_walk (plainFor_of_name (by decide +kernel)) (by decide +kernel) (by decide +kernel) (by decide) (fun _ _ h => by rw [h.1]; rfl) (fun _ U U' hal hh h => ⟨h.1, h.2.1.mv hal hh, h.2.2.1.mv hal hh, h.2.2.2.1.there hal hh, h.2.2.2.2⟩) (fun r U U' V V' h1 hal h2 h => Says01.mv r U U' V V' h1 hal h2 h) ?_
  intro p e s m args below meth c s₁ X0 hexec hbytes hml hret hlk hnm hown hh0 W hP
  obtain ⟨rfl, hx, hy, s1, hz⟩ := hP
  have c1 : Steps p.tables e below (s₁.setTop (entryFrame m #[.ref x, .ref y] 3)) (s₁.setTop (mkF m 2 #[.val (.ref x), .val (.ref y), .unset] [.ref y, .ref x])) := Steps.trans (entry rfl) (by
    show Steps p.tables e below (s₁.setTop (mkF m 0 #[.val (.ref x), .val (.ref y), .unset] [])) _
    refine XS.aloadN X0.here hexec rfl (hb hbytes d0) rfl rfl ?_
    refine XS.aloadN X0.here hexec rfl (hb hbytes d1) rfl rfl ?_
    exact Steps.refl _)
  by_cases hxy : x = y
  · have c2 : Steps p.tables e below (s₁.setTop (entryFrame m #[.ref x, .ref y] 3)) (s₁.setTop (mkF m 6 #[.val (.ref x), .val (.ref y), .unset] [.int 1])) := c1.trans (by
      refine acmpNo X0.here hexec rfl (hb hbytes d2) rfl rfl rfl (by simp [acmp, hxy]) ?_
      refine iconstV X0.here hexec rfl 1 (hb hbytes d5) (by decide) ?_
      exact Steps.refl _)
    subst hxy
    have ec : cd = cd' := by
      obtain ⟨D, fd, a1, a2, a3⟩ := hx.2.2.1
      obtain ⟨D', fd', b1, b2, b3⟩ := hy.2.2.1
      cases a1.symm.trans b1
      obtain ⟨q1, q2, q3, q4⟩ := a2.1
      obtain ⟨r1, r2, r3, r4⟩ := b2.1
      cases q4.symm.trans r4
      cases a3.symm.trans b3; rfl
    have et : t = t' := by
      obtain ⟨D, fd, a1, a2, a3⟩ := hx.2.1
      obtain ⟨D', fd', b1, b2, b3⟩ := hy.2.1
      cases a1.symm.trans b1
      obtain ⟨q1, q2, q3, q4⟩ := a2.1
      obtain ⟨r1, r2, r3, r4⟩ := b2.1
      cases q4.symm.trans r4
      cases a3.symm.trans b3; rfl
    subst ec et
    have ev : V = V' := by cases hx.2.2.2.1.1.symm.trans hy.2.2.2.1.1; rfl
    subst ev
    have hs : SameT n f k g := (Cod.eqv hx.2.2.2.2.1 hy.2.2.2.2.1 hx.2.2.2.2.2 hy.2.2.2.2.2).mp ⟨rfl, fun _ _ => rfl⟩
    exact ⟨s₁, some (.int 1), _, _, _, X0, rfl, rfl, rfl, (fun h => by cases h), ⟨1, rfl, hh0, Or.inl ⟨rfl, hs⟩⟩, fun fs hl => c2.trans (X0.ireturnOut hexec hret rfl (Or.inr (Or.inl rfl)) (hb hbytes d6) hl)⟩
  · have c2 : Steps p.tables e below (s₁.setTop (entryFrame m #[.ref x, .ref y] 3)) (s₁.setTop (mkF m 8 #[.val (.ref x), .val (.ref y), .unset] [.ref y])) := c1.trans (by
      refine acmpYes X0.here hexec rfl (pc0 := 2) rfl (hb hbytes d2) rfl rfl rfl (by simp [acmp, hxy]) (by decide) rfl ?_
      refine XS.aloadN X0.here hexec rfl (hb hbytes d7) rfl rfl ?_
      exact Steps.refl _)
    obtain ⟨T3, X3, q3, st3⟩ := cinst X0 hexec hown (wk W (.classLink "java/lang/String" 10 "java/lang/String")) (hy.mv X0.warmed.alike hh0).1 (g := (mkF m 8 #[.val (.ref x), .val (.ref y), .unset] [.ref y])) rfl (rest := []) rfl (hb hbytes d8)
    have hh3 := q3.trans hh0
    have c4 : Steps p.tables e below (s₁.setTop (entryFrame m #[.ref x, .ref y] 3)) (T3.setTop (mkF m 15 #[.val (.ref x), .val (.ref y), .unset] [.ref y])) := (c2.trans (st3 _ (Steps.refl _))).trans (by
      refine XS.ifNo X3.here hexec rfl (hb hbytes d11) rfl (i0_eq_f (by decide)) ?_
      refine XS.aloadN X3.here hexec rfl (hb hbytes d14) rfl rfl ?_
      exact Steps.refl _)
    obtain ⟨T5, X5, q5, st5⟩ := cself X3 hexec hown (wk W (.classLink "java/lang/String" 10 "java/lang/String")) (hy.mv X3.warmed.alike hh3).1 (g := (mkF m 15 #[.val (.ref x), .val (.ref y), .unset] [.ref y])) rfl (rest := []) rfl (hb hbytes d15)
    have hh5 := q5.trans hh3
    have c6 : Steps p.tables e below (s₁.setTop (entryFrame m #[.ref x, .ref y] 3)) (T5.setTop (mkF m 19 #[.val (.ref x), .val (.ref y), .val (.ref y)] [])) := (c4.trans (st5 _ (Steps.refl _))).trans (by
      refine XS.astoreN X5.here hexec rfl (hb hbytes d18) rfl rfl rfl ?_
      exact Steps.refl _)
    obtain ⟨T7, X7, q7, st7⟩ := X5.sget hexec hown (wk W (.fieldLink "java/lang/String" 38 "java/lang/String" "COMPACT_STRINGS" "Z")) s1 (fun _ _ h => by rw [hh5]; exact h) (g := (mkF m 19 #[.val (.ref x), .val (.ref y), .val (.ref y)] [])) rfl (hb hbytes d19)
    have hh7 := q7.trans hh5
    have c8 : Steps p.tables e below (s₁.setTop (entryFrame m #[.ref x, .ref y] 3)) (T7.setTop (mkF m 26 #[.val (.ref x), .val (.ref y), .val (.ref y)] [.ref x])) := (c6.trans (st7 _ (Steps.refl _))).trans (by
      refine XS.ifNo X7.here hexec rfl (hb hbytes d22) rfl (i0_eq_f hz) ?_
      refine XS.aloadN X7.here hexec rfl (hb hbytes d25) rfl rfl ?_
      exact Steps.refl _)
    obtain ⟨T9, X9, q9, st9⟩ := X7.hget hexec hown (wk W (.fieldLink "java/lang/String" 15 "java/lang/String" "coder" "B")) (hx.mv X7.warmed.alike hh7).2.2.1 (g := (mkF m 26 #[.val (.ref x), .val (.ref y), .val (.ref y)] [.ref x])) rfl (rest := []) rfl (hb hbytes d26)
    have hh9 := q9.trans hh7
    have c10 : Steps p.tables e below (s₁.setTop (entryFrame m #[.ref x, .ref y] 3)) (T9.setTop (mkF m 30 #[.val (.ref x), .val (.ref y), .val (.ref y)] [.ref y, .int cd])) := (c8.trans (st9 _ (Steps.refl _))).trans (by
      refine XS.aloadN X9.here hexec rfl (hb hbytes d29) rfl rfl ?_
      exact Steps.refl _)
    obtain ⟨T11, X11, q11, st11⟩ := X9.hget hexec hown (wk W (.fieldLink "java/lang/String" 15 "java/lang/String" "coder" "B")) (hy.mv X9.warmed.alike hh9).2.2.1 (g := (mkF m 30 #[.val (.ref x), .val (.ref y), .val (.ref y)] [.ref y, .int cd])) rfl (rest := [.int cd]) rfl (hb hbytes d30)
    have hh11 := q11.trans hh9
    have c12 : Steps p.tables e below (s₁.setTop (entryFrame m #[.ref x, .ref y] 3)) (T11.setTop (mkF m 33 #[.val (.ref x), .val (.ref y), .val (.ref y)] [.int cd', .int cd])) := c10.trans (st11 _ (Steps.refl _))
    by_cases hcd : cd = cd'
    · subst hcd
      have c13 : Steps p.tables e below (s₁.setTop (entryFrame m #[.ref x, .ref y] 3)) (T11.setTop (mkF m 37 #[.val (.ref x), .val (.ref y), .val (.ref y)] [.ref x])) := c12.trans (by
        refine XS.icmpNo X11.here hexec rfl (hb hbytes d33) rfl (ii_ne_f rfl) ?_
        refine XS.aloadN X11.here hexec rfl (hb hbytes d36) rfl rfl ?_
        exact Steps.refl _)
      obtain ⟨T14, X14, q14, st14⟩ := X11.hget hexec hown (wk W (.fieldLink "java/lang/String" 9 "java/lang/String" "value" "[B")) (hx.mv X11.warmed.alike hh11).2.1 (g := (mkF m 37 #[.val (.ref x), .val (.ref y), .val (.ref y)] [.ref x])) rfl (rest := []) rfl (hb hbytes d37)
      have hh14 := q14.trans hh11
      have c15 : Steps p.tables e below (s₁.setTop (entryFrame m #[.ref x, .ref y] 3)) (T14.setTop (mkF m 41 #[.val (.ref x), .val (.ref y), .val (.ref y)] [.ref y, .ref t])) := (c13.trans (st14 _ (Steps.refl _))).trans (by
        refine XS.aloadN X14.here hexec rfl (hb hbytes d40) rfl rfl ?_
        exact Steps.refl _)
      obtain ⟨T16, X16, q16, st16⟩ := X14.hget hexec hown (wk W (.fieldLink "java/lang/String" 9 "java/lang/String" "value" "[B")) (hy.mv X14.warmed.alike hh14).2.1 (g := (mkF m 41 #[.val (.ref x), .val (.ref y), .val (.ref y)] [.ref y, .ref t])) rfl (rest := [.ref t]) rfl (hb hbytes d41)
      have hh16 := q16.trans hh14
      have c17 : Steps p.tables e below (s₁.setTop (entryFrame m #[.ref x, .ref y] 3)) (T16.setTop (mkF m 44 #[.val (.ref x), .val (.ref y), .val (.ref y)] [.ref t', .ref t])) := c15.trans (st16 _ (Steps.refl _))
      obtain ⟨v18, T18, X18, E18, g18⟩ := X16.callS hexec (LEq.law l t V t' V') hown (wks W (staticW "java/lang/String" 541 LEq.yN)) (wk W LEq.tab) (W := 0) (Nat.le_of_ble_eq_true rfl) (Nat.le_of_ble_eq_true rfl) (Nat.le_refl _) (Nat.le_refl _) (g := (mkF m 44 #[.val (.ref x), .val (.ref y), .val (.ref y)] [.ref t', .ref t])) rfl (by rw [hml]; rfl) c17 (argsL := [.ref t, .ref t']) (rest := []) rfl rfl (by show 2 * 0 + 0 ≤ _; decide) (hb hbytes d44) (⟨rfl, hx.2.2.2.1.mv X16.warmed.alike hh16, hx.2.2.2.2.1.ty, hy.2.2.2.1.mv X16.warmed.alike hh16, hy.2.2.2.2.1.ty⟩)
      obtain ⟨v, rfl, q18, hv⟩ := E18
      have iff := Cod.eqv hx.2.2.2.2.1 hy.2.2.2.2.1 hx.2.2.2.2.2 hy.2.2.2.2.2
      rcases hv with ⟨rfl, he⟩ | ⟨rfl, he⟩
      · have c19 : Steps p.tables e below (s₁.setTop (entryFrame m #[.ref x, .ref y] 3)) (T18.setTop (mkF m 55 #[.val (.ref x), .val (.ref y), .val (.ref y)] [.int 1])) := Steps.trans g18 (by
          refine XS.ifNo X18.here hexec rfl (hb hbytes d47) rfl (i0_eq_f (by decide)) ?_
          refine iconstV X18.here hexec rfl 1 (hb hbytes d50) (by decide) ?_
          refine XS.goto X18.here hexec rfl (pc0 := 51) rfl (hb hbytes d51) (by decide) rfl ?_
          exact Steps.refl _)
        exact ⟨T18, some (.int 1), _, _, _, X18, rfl, rfl, rfl, (fun h => by cases h), ⟨1, rfl, q18.trans hh16, Or.inl ⟨rfl, iff.mp he⟩⟩, fun fs hl => c19.trans (X18.ireturnOut hexec hret rfl (Or.inr (Or.inl rfl)) (hb hbytes d55) hl)⟩
      · have c19 : Steps p.tables e below (s₁.setTop (entryFrame m #[.ref x, .ref y] 3)) (T18.setTop (mkF m 55 #[.val (.ref x), .val (.ref y), .val (.ref y)] [.int 0])) := Steps.trans g18 (by
          refine XS.ifYes X18.here hexec rfl (pc0 := 47) rfl (hb hbytes d47) rfl (i0_eq_t rfl) (by decide) rfl ?_
          refine iconstV X18.here hexec rfl 0 (hb hbytes d54) (by decide) ?_
          exact Steps.refl _)
        exact ⟨T18, some (.int 0), _, _, _, X18, rfl, rfl, rfl, (fun h => by cases h), ⟨0, rfl, q18.trans hh16, Or.inr ⟨rfl, fun q => he (iff.mpr q)⟩⟩, fun fs hl => c19.trans (X18.ireturnOut hexec hret rfl (Or.inr (Or.inl rfl)) (hb hbytes d55) hl)⟩
    · have c13 : Steps p.tables e below (s₁.setTop (entryFrame m #[.ref x, .ref y] 3)) (T11.setTop (mkF m 55 #[.val (.ref x), .val (.ref y), .val (.ref y)] [.int 0])) := c12.trans (by
        refine XS.icmpYes X11.here hexec rfl (pc0 := 33) rfl (hb hbytes d33) rfl (ii_ne_t hcd) (by decide) rfl ?_
        refine iconstV X11.here hexec rfl 0 (hb hbytes d54) (by decide) ?_
        exact Steps.refl _)
      exact ⟨T11, some (.int 0), _, _, _, X11, rfl, rfl, rfl, (fun h => by cases h), ⟨0, rfl, hh11, Or.inr ⟨rfl, Cod.dif hx.2.2.2.2.1 hy.2.2.2.2.1 hcd⟩⟩, fun fs hl => c13.trans (X11.ireturnOut hexec hret rfl (Or.inr (Or.inl rfl)) (hb hbytes d55) hl)⟩
theorem pays {l : Launch} {R : Room} {p : Program} {e : Env} {below : List Frame} {s : State} {sargs : Array Value} {len W : Nat} (x t : Addr) (V : Cell) (cd : Int32) (n : Nat) (f : Nat → Int32) (y t' : Addr) (V' : Cell) (cd' : Int32) (k : Nat) (g : Nat → Int32) (z : Int32) (htab : tab.before sargs s = true) (hfr : 2 ≤ R.frames) (hlo : W + 28 ≤ R.locals) :
    Back l R p e below s sargs yN len W (fun A₁ a₁ => A₁.cells + 0 ≤ R.cells ∧ A₁.slots + 0 ≤ R.slots ∧ P x t V cd n f y t' V' cd' k g z a₁ A₁.U) (fun A₁ _ v₁ B₁ => Says01 (SameT n f k g) v₁ A₁.U B₁.U ∧ B₁.locs = A₁.locs ++ [] ∧ B₁.cells = A₁.cells + 0 ∧ B₁.slots = A₁.slots + 0) :=
  (law l x t V cd n f y t' V' cd' k g z).pays htab hfr (by omega)
end SEq
end StrChars
namespace StrChars.Road
open Jvm Sem ClassFile Op Lib Jvm.Stand Jvm.Free Jvm.Free.XT
open Jvm.Lib.Cold (StaticIs)
/-- the words of String.isEmpty() -/
abbrev wordsEmp : List Jvm.Cond := [.code Emp.yN Emp.yB 1 (some .boolean), .initialized ST, .fieldLink ST 9 ST "value" "[B"]
theorem tabEmp_of {a : Array Value} {s : State} (h : ∀ w ∈ wordsEmp, w.before a s = true) : Emp.tab.before a s = true := unparts (wk h (.code Emp.yN Emp.yB 1 (some .boolean))) (wks h (.initialized Emp.yN.cls :: Emp.site))
theorem movedEmp {Z s : State} {a0 args : Array Value} (hZ : Z.Warmed39 s.vm) (hw : ∀ d ∈ wordsEmp, d.before a0 Z = true) : ∀ d ∈ wordsEmp, d.before args s = true := fun d hd => by
  have t : ∀ d ∈ wordsEmp, (d.onTables && d.keepsFace) = true := by decide +kernel
  exact RoadKit.mv hZ (hw d hd) (t d hd)
/-- the words of String.equals(Object) -/
abbrev wordsEq : List Jvm.Cond := [.code SEq.yN SEq.yB 3 (some .boolean), .initialized ST, .classLink ST 10 ST, .fieldLink ST 38 ST "COMPACT_STRINGS" "Z", .fieldLink ST 15 ST "coder" "B", .fieldLink ST 9 ST "value" "[B", .methodLink ST 541 LEq.yN, .static LEq.yN, .code LEq.yN LEq.yB 3 (some .boolean), .initialized "java/lang/StringLatin1"]
theorem tabEq_of {a : Array Value} {s : State} (h : ∀ w ∈ wordsEq, w.before a s = true) : SEq.tab.before a s = true := by
  have hl : LEq.tab.before a s = true := unparts (wk h (.code LEq.yN LEq.yB 3 (some .boolean))) (wks h (.initialized LEq.yN.cls :: LEq.site))
  have q := consq hl h
  exact unparts (wk q (.code SEq.yN SEq.yB 3 (some .boolean))) (wks q (.initialized SEq.yN.cls :: SEq.site))
theorem movedEq {Z s : State} {a0 args : Array Value} (hZ : Z.Warmed39 s.vm) (hw : ∀ d ∈ wordsEq, d.before a0 Z = true) : ∀ d ∈ wordsEq, d.before args s = true := fun d hd => by
  have t : ∀ d ∈ wordsEq, (d.onTables && d.keepsFace) = true := by decide +kernel
  exact RoadKit.mv hZ (hw d hd) (t d hd)
/-- the road's facts of a String, as the laws ask it -/
theorem txt_of {Z U : State} {a0 : Array Value} {kI : Nat} (wi : (Jvm.Cond.instantiable ST kI).before a0 Z = true) (al : Z.vm.Alike U.vm) {x t : Addr} {kb : ClassId} {cs : List Int32} {cd N2 : Int32} {vs : List Value} (E : RoadKit.Exa Z U.heap x ST) (V : RoadKit.Fld Z U.heap x ST "value" "[B" (.ref t)) (C : RoadKit.Fld Z U.heap x ST "coder" "B" (.int cd)) (K : RoadKit.Arv Z U.heap t kb .byte N2 vs (.int 0)) (hc : CodA cs cd N2 vs) (hb : ∀ c ∈ cs, ¬ c < 0 ∧ ¬ (65535 : Int32) < c) (l2 : cs.length ≤ 4000) :
    ∃ A, Txt x t A cd cs.length (fun j => cs.getD j 0) U := by
  obtain ⟨A, K1, K2, K3, K4, K5, K6⟩ := K
  have hcod := hc.cod (by omega) K3 K5
  obtain ⟨D, fV, fC, hB, F1, F2, g1, g2, -, -⟩ := strObj wi al E V C
  exact ⟨A, ⟨_, hB.2.2.1, D, hB.1, rfl, by cases q : D.vm <;> first | rfl | exact absurd q (hB.2.1.2 _)⟩, Has.of hB F1 g1, Has.of hB F2 g2, ⟨K1.1, State.isArrayOf_alike al K1.2.1, K1.2.2, by rcases hcod with ⟨-, q, -⟩ | ⟨-, q, -⟩ <;> omega⟩, hcod, fun j hj => by
    have e : cs.getD j 0 = cs[j] := by simp [List.getD_eq_getElem?_getD, hj]
    show ¬ cs.getD j 0 < 0 ∧ ¬ 65535 < cs.getD j 0
    rw [e]; exact hb _ (List.getElem_mem _)⟩
theorem same_list (cs ds : List Int32) : SameT cs.length (fun j => cs.getD j 0) ds.length (fun j => ds.getD j 0) ↔ cs = ds := by
  constructor
  · rintro ⟨e, q⟩
    refine List.ext_getElem e fun j h1 h2 => ?_
    have := q j h1
    simpa [List.getD_eq_getElem?_getD, h1, h2] using this
  · rintro rfl
    exact ⟨rfl, fun _ _ => rfl⟩
/-- **isEmpty() OF SUCH A STRING** -/
theorem empW {p : Program} {l : Launch} {e : Env} {R : Room} {s : State} {args : Array Value} {below : List Frame} {len W : Nat} {Z : State} {a0 : Array Value} {h : Heap} (hZ : Z.Warmed39 s.vm) (hw : ∀ d ∈ wordsEmp, d.before a0 Z = true) {kI : Nat} (wi : (Jvm.Cond.instantiable ST kI).before a0 Z = true)
    {x t : Addr} {kb : ClassId} {cs : List Int32} {cd N2 : Int32} {vs : List Value} (E : RoadKit.Exa Z h x ST) (V : RoadKit.Fld Z h x ST "value" "[B" (.ref t)) (C : RoadKit.Fld Z h x ST "coder" "B" (.int cd)) (K : RoadKit.Arv Z h t kb .byte N2 vs (.int 0)) (hc : CodA cs cd N2 vs) (hb : ∀ c ∈ cs, ¬ c < 0 ∧ ¬ (65535 : Int32) < c) (l2 : cs.length ≤ 4000) (hfr : 1 ≤ R.frames) (hlo : W + 12 ≤ R.locals) :
    Back l R p e below s args (⟨"java/lang/String", "isEmpty", "()Z"⟩ : MethodName) len W (fun P a => a = #[.ref x] ∧ P.U.heap = h ∧ P.cells + 0 ≤ R.cells ∧ P.slots + 0 ≤ R.slots)
      (fun P _ v B => ∃ L, (v = some (.int (if cs.length = 0 then 1 else 0)) ∧ L = [] ∧ B.U.heap = h) ∧ B.locs = P.locs ++ L ∧ B.cells = P.cells + 0 ∧ B.slots = P.slots + 0) := by
  intro m meth c P g ig mk a X hg hsize hdg hW hn hp'
  obtain ⟨rfl, rfl, r1, r2⟩ := hp'
  have al : Z.vm.Alike P.U.vm := hZ.alike.trans X.warmed.alike
  obtain ⟨A, hx⟩ := txt_of wi al E V C K hc hb l2
  obtain ⟨v, B, X', ⟨⟨hv, hh⟩, hl, hk, hs⟩, st⟩ := Emp.pays x t A cd cs.length (fun j => cs.getD j 0) (tabEmp_of (movedEmp hZ hw)) hfr hlo m meth c P g ig mk _ X hg hsize hdg hW hn ⟨r1, r2, rfl, hx⟩
  exact ⟨v, B, X', ⟨[], ⟨hv, rfl, hh⟩, hl, hk, hs⟩, st⟩
/-- **equals(Object) OF TWO SUCH STRINGS**: 1 just where the chars are the same -/
theorem eqW {p : Program} {l : Launch} {e : Env} {R : Room} {s : State} {args : Array Value} {below : List Frame} {len W : Nat} {Z : State} {a0 : Array Value} {h : Heap} (hZ : Z.Warmed39 s.vm) (hw : ∀ d ∈ wordsEq, d.before a0 Z = true) {kI : Nat} (wi : (Jvm.Cond.instantiable ST kI).before a0 Z = true)
    {x t : Addr} {kb : ClassId} {cs : List Int32} {cd N2 : Int32} {vs : List Value} (E : RoadKit.Exa Z h x ST) (V : RoadKit.Fld Z h x ST "value" "[B" (.ref t)) (C : RoadKit.Fld Z h x ST "coder" "B" (.int cd)) (K : RoadKit.Arv Z h t kb .byte N2 vs (.int 0)) (hc : CodA cs cd N2 vs) (hb : ∀ c ∈ cs, ¬ c < 0 ∧ ¬ (65535 : Int32) < c) (l2 : cs.length ≤ 4000)
    {y t' : Addr} {kb' : ClassId} {ds : List Int32} {cd' N2' : Int32} {vs' : List Value} (E' : RoadKit.Exa Z h y ST) (V' : RoadKit.Fld Z h y ST "value" "[B" (.ref t')) (C' : RoadKit.Fld Z h y ST "coder" "B" (.int cd')) (K' : RoadKit.Arv Z h t' kb' .byte N2' vs' (.int 0)) (hc' : CodA ds cd' N2' vs') (hb' : ∀ c ∈ ds, ¬ c < 0 ∧ ¬ (65535 : Int32) < c) (l2' : ds.length ≤ 4000)
    {z : Int32} (S : RoadKit.Sta Z h ST "COMPACT_STRINGS" "Z" (.int z)) (hz : ¬ z = 0) (hfr : 2 ≤ R.frames) (hlo : W + 28 ≤ R.locals) :
    Back l R p e below s args (⟨"java/lang/String", "equals", "(Ljava/lang/Object;)Z"⟩ : MethodName) len W (fun P a => a = #[.ref x, .ref y] ∧ P.U.heap = h ∧ P.cells + 0 ≤ R.cells ∧ P.slots + 0 ≤ R.slots)
      (fun P _ v B => ∃ L, (((v = some (.int 1) ∧ cs = ds) ∨ (v = some (.int 0) ∧ ¬ cs = ds)) ∧ L = [] ∧ B.U.heap = h) ∧ B.locs = P.locs ++ L ∧ B.cells = P.cells + 0 ∧ B.slots = P.slots + 0) := by
  intro m meth c P g ig mk a X hg hsize hdg hW hn hp'
  obtain ⟨rfl, rfl, r1, r2⟩ := hp'
  have al : Z.vm.Alike P.U.vm := hZ.alike.trans X.warmed.alike
  obtain ⟨A, hx⟩ := txt_of wi al E V C K hc hb l2
  obtain ⟨A', hy⟩ := txt_of wi al E' V' C' K' hc' hb' l2'
  obtain ⟨v, B, X', ⟨⟨w, hv, hh, hq⟩, hl, hk, hs⟩, st⟩ := SEq.pays x t A cd cs.length (fun j => cs.getD j 0) y t' A' cd' ds.length (fun j => ds.getD j 0) z (tabEq_of (movedEq hZ hw)) hfr hlo m meth c P g ig mk _ X hg hsize hdg hW hn ⟨r1, r2, rfl, hx, hy, sta_is al S, hz⟩
  refine ⟨v, B, X', ⟨[], ⟨?_, rfl, hh⟩, hl, hk, hs⟩, st⟩
  rcases hq with ⟨rfl, q⟩ | ⟨rfl, q⟩
  · exact Or.inl ⟨hv, (same_list cs ds).mp q⟩
  · exact Or.inr ⟨hv, fun e => q ((same_list cs ds).mpr e)⟩
end StrChars.Road
namespace StrChars.Road
open Jvm Sem ClassFile Op Lib Jvm.Stand Jvm.Free Jvm.Free.XT
open Jvm.Lib.Cold (StaticIs)
/-- what backV says of its String, as the contracts of this text ask it: cs's low bytes, coder 0 -/
theorem codOf {cs : List Int32} {n : Nat} (hn : cs.length = n) (hb : ∀ c ∈ cs, ¬ 255 < c) : CodA cs 0 (Int32.ofNat n) ((cs.map lo8).map Value.int) := Or.inl ⟨rfl, by rw [hn], by simp [List.map_map, Function.comp_def], hb⟩
end StrChars.Road
end Jvm.Pilot.@@N@@
namespace Jvm.Pilot.@@N@@
open Jvm Jvm.ClassFile Sem Op Lib Jvm.Free Jvm.Stand Jvm.LawKit Jvm.RoadKit Bundle Jvm.Pilot.@@N@@.Jvm.D
section Own
variable {w : Bool} {p : Program} {l : Launch} {e : Env} {R : Room} {s : State} {m : MethodId} {args : Array Value} {below : List Frame} {meth : Method} {c : Code} {T : State} {cells slots n0 mx : Nat} {Z : State} {a0 : Array Value} {h : Heap} {bytes : ByteArray} {ret : Option FieldType} {own nm : String} {EL : List (String × Nat)} {sf : List Addr} {Q : Outcome → State → Prop} {pc q : Nat} {Ls : Array Slot} {st rest : List Value}
def own_Base (w : Bool) (s : State) (vm0 : Vm) (h : Heap) : Prop := (w = false ∧ vm0 = s.vm) ∨ (w = true ∧ ∃ k0, s.Since vm0 k0 ∧ k0 ≤ h.size)
/-- addresses that the walk has made and that are no literal's -/
def own_Sf (Z : State) (EL : List (String × Nat)) (vm : Vm) (h : Heap) (sf : List Addr) : Prop := ∀ x ∈ sf, Safe Z EL vm h x ∧ x < h.size
def own_At (w : Bool) (p : Program) (l : Launch) (e : Env) (R : Room) (s : State) (m : MethodId) (args : Array Value) (below : List Frame) (meth : Method) (c : Code) (bytes : ByteArray) (ret : Option FieldType) (own nm : String) (mx : Nat) (Z : State) (n0 : Nat) (a0 : Array Value) (EL : List (String × Nat)) (sf : List Addr) (T : State) (h : Heap) (cells slots : Nat) : Prop :=
  (p.tables.exec = Jvm.exec ∧ c.code = bytes ∧ meth.sig.returnType = ret ∧ meth.locks = false ∧ meth.name = nm ∧ c.maxLocals = mx) ∧
  ∃ (vm0 : Vm) (locs : List Loc), Stand p l e R (s.setVm vm0) m args below meth c T locs cells slots ∧ own_Base w s vm0 h ∧ Z.Warmed39 vm0 ∧ vm0.findClass own = some m.cls ∧ T.heap = h ∧ Fr n0 locs ∧ Old Z n0 h ∧ EW Z a0 EL ∧ CHr Z EL s.vm s.heap vm0 h ∧ own_Sf Z EL vm0 h sf
def own_Run (p : Program) (e : Env) (below : List Frame) (Q : Outcome → State → Prop) (m : MethodId) (T : State) (pc : Nat) (Ls : Array Slot) (st : List Value) : Prop :=
  ∃ s₂ o, Steps p.tables e below (T.setTop (mkF m pc Ls st)) s₂ ∧ s₂.status = .running ∧ Ended s₂ below o ∧ Q o s₂
def own_End : Bool → State → Outcome → State → List Loc → Nat → Nat → Prop
  | true, s, o, t, L, k, n => ReturnedEndW s o t L k n
  | false, s, o, t, L, k, n => FrameEnd s o t L k n
/-- what an invocation leaves: Qc of the value returned and the heap -/
def own_Q (w : Bool) (s : State) (rm : Room) (n0 : Nat) (Z : State) (EL : List (String × Nat)) (Qc : Option Value → Heap → Prop) (o : Outcome) (t : State) : Prop :=
  ∃ v L, o = .returned v ∧ (Qc v t.heap ∧ Fr n0 L ∧ Old Z n0 t.heap ∧ s.heap.size ≤ t.heap.size) ∧ CHr Z EL s.vm s.heap t.vm t.heap ∧ own_End w s o t L rm.cells rm.slots
def own_Met (w : Bool) (l : Launch) (Z : State) (n0 : Nat) (EL : List (String × Nat)) (sf : List Addr) (y : MethodName) (bytes : ByteArray) (mx : Nat) (ret : Option FieldType) (ws : List Jvm.Cond) (rm : Room) (as' : Array Value) (h : Heap) (Qc : Option Value → Heap → Prop) : Prop :=
  MetFree l y (head1 (Jvm.Cond.code y bytes mx ret :: ws) rm) (fun a U => a = as' ∧ Z.Warmed39 U.vm ∧ U.heap = h ∧ CHv Z EL U.vm h ∧ own_Sf Z EL U.vm h sf) (fun _ _ _ _ _ => True) (fun _ U o U' => own_Q w U rm n0 Z EL Qc o U')
theorem own_by {T' : State} {Ls' : Array Slot} {st' : List Value} (hs : ∀ t, Steps p.tables e below (T'.setTop (mkF m q Ls' st')) t → Steps p.tables e below (T.setTop (mkF m pc Ls st)) t) (k : own_Run p e below Q m T' q Ls' st') : own_Run p e below Q m T pc Ls st := by
  obtain ⟨a, o, h1, r⟩ := k
  exact ⟨a, o, hs _ h1, r⟩
theorem own_At.old (A : own_At w p l e R s m args below meth c bytes ret own nm mx Z n0 a0 EL sf T h cells slots) : Old Z n0 h := by obtain ⟨-, _, _, -, -, -, -, -, -, O, -⟩ := A; exact O
theorem own_At.fr (A : own_At w p l e R s m args below meth c bytes ret own nm mx Z n0 a0 EL sf T h cells slots) : n0 ≤ h.size := by have O := A.old; exact O.1 ▸ O.2.1
theorem own_Base.le {vm0 : Vm} {h h' : Heap} (B : own_Base w s vm0 h) (g : h.size ≤ h'.size) : own_Base w s vm0 h' := by
  rcases B with B | ⟨B, k0, B1, B2⟩
  · exact Or.inl B
  · exact Or.inr ⟨B, k0, B1, Nat.le_trans B2 g⟩
theorem own_ch0 {vm vm1 : Vm} {h h' : Heap} (g : h.size ≤ h'.size) : CHr Z [] vm h vm1 h' := by
  refine ⟨fun p hp => ?_, g, fun y B => ?_⟩
  · cases hp
  · obtain ⟨p, hp, -⟩ := B
    cases hp
theorem own_Sf.ext {vm : Vm} {h h' : Heap} (S : own_Sf Z EL vm h sf) (H : CHv Z EL vm h) (E : Ext h h') : own_Sf Z EL vm h' sf := fun x hx => ⟨(S x hx).1.ext E H, Nat.lt_of_lt_of_le (S x hx).2 E.1⟩
theorem own_Sf.new {vm : Vm} {h h' : Heap} (S : own_Sf Z EL vm h sf) (H : CHv Z EL vm h) (E : Ext h h') (g : h.size < h'.size) : own_Sf Z EL vm h' (h.size :: sf) := fun x hx => by
  rcases List.mem_cons.mp hx with rfl | hx
  · exact ⟨(Safe.new (Nat.le_refl _)).ext E H, g⟩
  · exact S.ext H E x hx
theorem own_Sf.wr {vm : Vm} {h h' : Heap} {a : Addr} {sl : Nat} {v : Value} (S : own_Sf Z EL vm h sf) (H : CHv Z EL vm h) (W : Wr h h' a sl v) (Sa : Safe Z EL vm h a) : own_Sf Z EL vm h' sf := fun x hx => ⟨Safe.wr W Sa H (S x hx).1, by rw [W.size]; exact (S x hx).2⟩
theorem own_Sf.ch {vm vm1 : Vm} {h h' : Heap} (S : own_Sf Z EL vm h sf) (C : CHr Z EL vm h vm1 h') : own_Sf Z EL vm1 h' sf := fun x hx => ⟨C.safe (S x hx).2 (S x hx).1, Nat.lt_of_lt_of_le (S x hx).2 C.2.1⟩
/-- what may be written: a made object, anything where there are no literals, no String and no byte[] -/
def own_Wok (Z : State) (EL : List (String × Nat)) (sf : List Addr) (h : Heap) (a : Addr) : Prop := a ∈ sf ∨ EL = [] ∨ (∃ C, Exa Z h a C ∧ C ≠ "java/lang/String" ∧ C ≠ "[B") ∨ ∃ cl ty, Arr Z h a cl ty ∧ ty ≠ .byte
theorem own_Wok.safe {vm : Vm} {a : Addr} (W : own_Wok Z EL sf h a) (hZ : Z.Warmed39 vm) (S : own_Sf Z EL vm h sf) : Safe Z EL vm h a := by
  rcases W with W | rfl | ⟨C, E, h1, h2⟩ | ⟨cl, ty, Ar, ht⟩
  · exact (S a W).1
  · exact fun B => by
      obtain ⟨p, hp, -⟩ := B
      cases hp
  · exact Safe.exa hZ.alike E h1 h2
  · exact Safe.arr hZ.alike Ar ht
/-- the entry -/
theorem own_enter {y : MethodName} {mx : Nat} {ws : List Jvm.Cond} {rm : Room} {as' : Array Value} {Qc : Option Value → Heap → Prop} (hpl : plainName own = true) (O : Old Z n0 h) (hEL : EW Z a0 EL) (hef : ∀ m, entryFrame m as' mx = mkF m 0 Ls [])
    (body : ∀ p e s m args below meth c T Q, Q = own_Q w s rm n0 Z EL Qc → own_At w p l e rm s m args below meth c bytes ret own nm mx Z n0 a0 EL sf T h 0 0 → own_Run p e below Q m T 0 Ls []) (ho : y.cls = own := by rfl) (hn : y.name = nm := by rfl) : own_Met w l Z n0 EL sf y bytes mx ret ws rm as' h Qc := by
  subst ho hn
  refine MetFree.of_bodySF (plainFor_of_name hpl) hisR ?_
  intro p e s m args below meth c s₁ Bd hml0 hP hK
  obtain ⟨rfl, hZ, hh, hCH, hSf⟩ := hP
  have X0 : Stand p l e rm s m args below meth c s₁ [] 0 0 := Stand.of_body Bd
  have e0 : s₁.heap = h := by rw [← hh, Bd.state]; rfl
  have hown : s.vm.findClass y.cls = some m.cls := findClass_of_methodNamed Bd.named
  have A : own_At w p l e rm s m args below meth c bytes ret y.cls y.name mx Z n0 a0 EL sf s₁ h 0 0 :=
    ⟨⟨Bd.exec, Bd.bytes, Bd.returns, Bd.notSynchronized, (name_of_methodNamed Bd.named Bd.method).1, hml0⟩, s.vm, [], X0, (by
      cases w
      · exact Or.inl ⟨rfl, rfl⟩
      · exact Or.inr ⟨rfl, 0, (State.WarmedH.refl s).since 0, Nat.zero_le _⟩), hZ, hown, e0, Fr.nil n0, O, hEL, (by rw [hh]; exact CHr.refl hCH), hSf⟩
  obtain ⟨s₂, o, h1, h2, h3, h4⟩ := body p e s m args below meth c s₁ _ rfl A
  exact ⟨s₂, o, castTop (hef m) h1, h2, h3, h4⟩
/-- the end of a walk, whatever the returning instruction -/
theorem own_end {rm : Room} {Qc : Option Value → Heap → Prop} (A : own_At w p l e R s m args below meth c bytes ret own nm mx Z n0 a0 EL sf T h cells slots) (hQ : Q = own_Q w s rm n0 Z EL Qc) (v : Option Value) (hv : ret = none → v = none) (hq : Qc v h) (hk : cells ≤ rm.cells) (hn : slots ≤ rm.slots)
    (hs : ∀ fs, (∀ (f : JFrame) (acts : List Action), f.method = m → f.locked = none → f.entered = [] → (doReturn e (T.setTop f) acts v).1 = T.setFrames fs) → Steps p.tables e below (T.setTop (mkF m pc Ls st)) (T.setFrames fs)) : own_Run p e below Q m T pc Ls st := by
  subst hQ
  obtain ⟨⟨hx, hby, hret, hlk, hnm, hml⟩, vm0, locs, X, B, hZ, hown, hT, N, O, hEL, Ch, Sf⟩ := A
  subst hT
  have Ch' := Ch.trans (CHv.at X hZ hEL Ch.1)
  rcases B with ⟨rfl, rfl⟩ | ⟨rfl, k0, B1, B2⟩
  · have X' : Stand p l e R s m args below meth c T locs cells slots := X
    obtain ⟨fs, hr, hrun, hended, hW, hsame⟩ := X'.leave (v := v) (fun z => hv (hret ▸ z)) hlk
    exact ⟨_, _, hs fs hr, hrun, hended, v, locs, rfl, ⟨hq, N, O, X'.same.2.1⟩, Ch', ⟨_, rfl⟩, hW, hsame.mono hk hn⟩
  · obtain ⟨fs, hr, hrun, hended, hW⟩ := X.leaveW B1 B2 (v := v) (fun z => hv (hret ▸ z)) hlk
    exact ⟨_, _, hs fs hr, hrun, hended, v, locs, rfl, ⟨hq, N, O, X.same.2.1⟩, Ch', hW.1, hW.2.1, hW.2.2.1, hW.2.2.2.mono hk hn⟩
theorem own_retN {z : Int32} {t : FieldType} {rm : Room} {Qc : Option Value → Heap → Prop} (A : own_At w p l e R s m args below meth c bytes (some t) own nm mx Z n0 a0 EL sf T h cells slots) (hQ : Q = own_Q w s rm n0 Z EL Qc) (ht : t = .boolean ∨ t = .byte ∨ t = .char ∨ t = .short) (hd : decode bytes pc = .ok (.ireturn, 1)) (hq : Qc (some (.int (nar t z))) h) (hk : cells ≤ rm.cells := by decide) (hn : slots ≤ rm.slots := by decide) : own_Run p e below Q m T pc Ls (.int z :: rest) := by
  obtain ⟨⟨hx, hby, hret, hlk, hnm, hml⟩, vm0, locs, X, r⟩ := id A
  subst hby
  exact own_end A hQ (some (.int (nar t z))) (fun z => by cases z) hq hk hn (fun fs hr => RoadKit.retN X hx hret ht hd hr)
theorem own_retI {z : Int32} {rm : Room} {Qc : Option Value → Heap → Prop} (A : own_At w p l e R s m args below meth c bytes (some .int) own nm mx Z n0 a0 EL sf T h cells slots) (hQ : Q = own_Q w s rm n0 Z EL Qc)  (hd : decode bytes pc = .ok (.ireturn, 1)) (hq : Qc (some (.int z)) h) (hk : cells ≤ rm.cells := by decide) (hn : slots ≤ rm.slots := by decide) : own_Run p e below Q m T pc Ls (.int z :: rest) := by
  obtain ⟨⟨hx, hby, hret, hlk, hnm, hml⟩, vm0, locs, X, r⟩ := id A
  subst hby
  exact own_end A hQ (some (.int z)) (fun z => by cases z) hq hk hn (fun fs hr => RoadKit.retOut X hx hret rfl (Or.inl ⟨rfl, Or.inl rfl, z, rfl⟩) hd hr)
theorem own_retJ {z : Int64} {rm : Room} {Qc : Option Value → Heap → Prop} (A : own_At w p l e R s m args below meth c bytes (some .long) own nm mx Z n0 a0 EL sf T h cells slots) (hQ : Q = own_Q w s rm n0 Z EL Qc)  (hd : decode bytes pc = .ok (.lreturn, 1)) (hq : Qc (some (.long z)) h) (hk : cells ≤ rm.cells := by decide) (hn : slots ≤ rm.slots := by decide) : own_Run p e below Q m T pc Ls (.long z :: rest) := by
  obtain ⟨⟨hx, hby, hret, hlk, hnm, hml⟩, vm0, locs, X, r⟩ := id A
  subst hby
  exact own_end A hQ (some (.long z)) (fun z => by cases z) hq hk hn (fun fs hr => RoadKit.retOut X hx hret rfl (Or.inr (Or.inl ⟨rfl, rfl, z, rfl⟩)) hd hr)
theorem own_retD {z : UInt64} {rm : Room} {Qc : Option Value → Heap → Prop} (A : own_At w p l e R s m args below meth c bytes (some .double) own nm mx Z n0 a0 EL sf T h cells slots) (hQ : Q = own_Q w s rm n0 Z EL Qc)  (hd : decode bytes pc = .ok (.dreturn, 1)) (hq : Qc (some (.double z)) h) (hk : cells ≤ rm.cells := by decide) (hn : slots ≤ rm.slots := by decide) : own_Run p e below Q m T pc Ls (.double z :: rest) := by
  obtain ⟨⟨hx, hby, hret, hlk, hnm, hml⟩, vm0, locs, X, r⟩ := id A
  subst hby
  exact own_end A hQ (some (.double z)) (fun z => by cases z) hq hk hn (fun fs hr => RoadKit.retOut X hx hret rfl (Or.inr (Or.inr (Or.inl ⟨rfl, rfl, z, rfl⟩))) hd hr)
theorem own_retA {z : Value} {t : FieldType} {rm : Room} {Qc : Option Value → Heap → Prop} (A : own_At w p l e R s m args below meth c bytes (some t) own nm mx Z n0 a0 EL sf T h cells slots) (hQ : Q = own_Q w s rm n0 Z EL Qc) (ht : t.isReference = true) (hz : z.isRef = true) (hnz : narrow t z = z) (hd : decode bytes pc = .ok (.areturn, 1)) (hq : Qc (some z) h) (hk : cells ≤ rm.cells := by decide) (hn : slots ≤ rm.slots := by decide) : own_Run p e below Q m T pc Ls (z :: rest) := by
  obtain ⟨⟨hx, hby, hret, hlk, hnm, hml⟩, vm0, locs, X, r⟩ := id A
  subst hby
  exact own_end A hQ (some z) (fun z => by cases z) hq hk hn (fun fs hr => RoadKit.retOut X hx hret hnz (Or.inr (Or.inr (Or.inr (Or.inr ⟨rfl, ht, hz⟩)))) hd hr)
theorem own_ret0 {rm : Room} {Qc : Option Value → Heap → Prop} (A : own_At w p l e R s m args below meth c bytes none own nm mx Z n0 a0 EL sf T h cells slots) (hQ : Q = own_Q w s rm n0 Z EL Qc) (hd : decode bytes pc = .ok (.return_, 1)) (hq : Qc none h) (hk : cells ≤ rm.cells := by decide) (hn : slots ≤ rm.slots := by decide) : own_Run p e below Q m T pc Ls [] := by
  obtain ⟨⟨hx, hby, hret, hlk, hnm, hml⟩, vm0, locs, X, r⟩ := id A
  subst hby
  exact own_end A hQ none (fun _ => rfl) hq hk hn (fun fs hr => X.returnOut hx hret hd hr)
theorem own_aloadN (A : own_At w p l e R s m args below meth c bytes ret own nm mx Z n0 a0 EL sf T h cells slots) {i : Fin 4} {v : Value} (hd : decode bytes pc = .ok (.aload_n i, 1)) (hl : Ls[i.val]? = some (.val v)) (hv : v.isRef = true) (k : own_Run p e below Q m T q Ls (v :: st)) (hq : pc + 1 = q := by rfl) : own_Run p e below Q m T pc Ls st := by
  obtain ⟨⟨hx, hby, -⟩, vm0, locs, X, -⟩ := A
  subst hby hq
  refine own_by (fun t z => ?_) k
  exact XS.aloadN X.here hx rfl hd hl hv z
theorem own_aload (A : own_At w p l e R s m args below meth c bytes ret own nm mx Z n0 a0 EL sf T h cells slots) {i : Nat} {v : Value} (hd : decode bytes pc = .ok (.aload i, 2)) (hl : Ls[i]? = some (.val v)) (hv : v.isRef = true) (k : own_Run p e below Q m T q Ls (v :: st)) (hq : pc + 2 = q := by rfl) : own_Run p e below Q m T pc Ls st := by
  obtain ⟨⟨hx, hby, -⟩, vm0, locs, X, -⟩ := A
  subst hby hq
  refine own_by (fun t z => ?_) k
  exact XS.aload X.here hx rfl hd hl hv z
theorem own_iloadN (A : own_At w p l e R s m args below meth c bytes ret own nm mx Z n0 a0 EL sf T h cells slots) {i : Fin 4} {v : Int32} (hd : decode bytes pc = .ok (.iload_n i, 1)) (hl : Ls[i.val]? = some (.val (.int v))) (k : own_Run p e below Q m T q Ls (.int v :: st)) (hq : pc + 1 = q := by rfl) : own_Run p e below Q m T pc Ls st := by
  obtain ⟨⟨hx, hby, -⟩, vm0, locs, X, -⟩ := A
  subst hby hq
  refine own_by (fun t z => ?_) k
  exact XS.iloadN X.here hx rfl hd hl z
theorem own_iload (A : own_At w p l e R s m args below meth c bytes ret own nm mx Z n0 a0 EL sf T h cells slots) {i : Nat} {v : Int32} (hd : decode bytes pc = .ok (.iload i, 2)) (hl : Ls[i]? = some (.val (.int v))) (k : own_Run p e below Q m T q Ls (.int v :: st)) (hq : pc + 2 = q := by rfl) : own_Run p e below Q m T pc Ls st := by
  obtain ⟨⟨hx, hby, -⟩, vm0, locs, X, -⟩ := A
  subst hby hq
  refine own_by (fun t z => ?_) k
  exact XS.iload X.here hx rfl hd hl z
theorem own_istoreN (A : own_At w p l e R s m args below meth c bytes ret own nm mx Z n0 a0 EL sf T h cells slots) {i : Fin 4} {v : Int32} {L' : Array Slot} (hd : decode bytes pc = .ok (.istore_n i, 1)) (hl : storeLocals Ls i.val (.int v) = some L') (k : own_Run p e below Q m T q L' rest) (hq : pc + 1 = q := by rfl) : own_Run p e below Q m T pc Ls (.int v :: rest) := by
  obtain ⟨⟨hx, hby, -⟩, vm0, locs, X, -⟩ := A
  subst hby hq
  refine own_by (fun t z => ?_) k
  exact XS.istoreN X.here hx rfl hd rfl hl z
theorem own_istore (A : own_At w p l e R s m args below meth c bytes ret own nm mx Z n0 a0 EL sf T h cells slots) {i : Nat} {v : Int32} {L' : Array Slot} (hd : decode bytes pc = .ok (.istore i, 2)) (hl : storeLocals Ls i (.int v) = some L') (k : own_Run p e below Q m T q L' rest) (hq : pc + 2 = q := by rfl) : own_Run p e below Q m T pc Ls (.int v :: rest) := by
  obtain ⟨⟨hx, hby, -⟩, vm0, locs, X, -⟩ := A
  subst hby hq
  refine own_by (fun t z => ?_) k
  exact XS.istore X.here hx rfl hd rfl hl z
theorem own_lloadN (A : own_At w p l e R s m args below meth c bytes ret own nm mx Z n0 a0 EL sf T h cells slots) {i : Fin 4} {v : Int64} (hd : decode bytes pc = .ok (.lload_n i, 1)) (hl : Ls[i.val]? = some (.val (.long v))) (k : own_Run p e below Q m T q Ls (.long v :: st)) (hq : pc + 1 = q := by rfl) : own_Run p e below Q m T pc Ls st := by
  obtain ⟨⟨hx, hby, -⟩, vm0, locs, X, -⟩ := A
  subst hby hq
  refine own_by (fun t z => ?_) k
  exact XS.lloadN X.here hx rfl hd hl z
theorem own_lload (A : own_At w p l e R s m args below meth c bytes ret own nm mx Z n0 a0 EL sf T h cells slots) {i : Nat} {v : Int64} (hd : decode bytes pc = .ok (.lload i, 2)) (hl : Ls[i]? = some (.val (.long v))) (k : own_Run p e below Q m T q Ls (.long v :: st)) (hq : pc + 2 = q := by rfl) : own_Run p e below Q m T pc Ls st := by
  obtain ⟨⟨hx, hby, -⟩, vm0, locs, X, -⟩ := A
  subst hby hq
  refine own_by (fun t z => ?_) k
  exact XS.lload X.here hx rfl hd hl z
theorem own_lstoreN (A : own_At w p l e R s m args below meth c bytes ret own nm mx Z n0 a0 EL sf T h cells slots) {i : Fin 4} {v : Int64} {L' : Array Slot} (hd : decode bytes pc = .ok (.lstore_n i, 1)) (hl : storeLocals Ls i.val (.long v) = some L') (k : own_Run p e below Q m T q L' rest) (hq : pc + 1 = q := by rfl) : own_Run p e below Q m T pc Ls (.long v :: rest) := by
  obtain ⟨⟨hx, hby, -⟩, vm0, locs, X, -⟩ := A
  subst hby hq
  refine own_by (fun t z => ?_) k
  exact XS.lstoreN X.here hx rfl hd rfl hl z
theorem own_lstore (A : own_At w p l e R s m args below meth c bytes ret own nm mx Z n0 a0 EL sf T h cells slots) {i : Nat} {v : Int64} {L' : Array Slot} (hd : decode bytes pc = .ok (.lstore i, 2)) (hl : storeLocals Ls i (.long v) = some L') (k : own_Run p e below Q m T q L' rest) (hq : pc + 2 = q := by rfl) : own_Run p e below Q m T pc Ls (.long v :: rest) := by
  obtain ⟨⟨hx, hby, -⟩, vm0, locs, X, -⟩ := A
  subst hby hq
  refine own_by (fun t z => ?_) k
  exact XS.lstore X.here hx rfl hd rfl hl z
theorem own_dloadN (A : own_At w p l e R s m args below meth c bytes ret own nm mx Z n0 a0 EL sf T h cells slots) {i : Fin 4} {v : UInt64} (hd : decode bytes pc = .ok (.dload_n i, 1)) (hl : Ls[i.val]? = some (.val (.double v))) (k : own_Run p e below Q m T q Ls (.double v :: st)) (hq : pc + 1 = q := by rfl) : own_Run p e below Q m T pc Ls st := by
  obtain ⟨⟨hx, hby, -⟩, vm0, locs, X, -⟩ := A
  subst hby hq
  refine own_by (fun t z => ?_) k
  exact XS.dloadN X.here hx rfl hd hl z
theorem own_dload (A : own_At w p l e R s m args below meth c bytes ret own nm mx Z n0 a0 EL sf T h cells slots) {i : Nat} {v : UInt64} (hd : decode bytes pc = .ok (.dload i, 2)) (hl : Ls[i]? = some (.val (.double v))) (k : own_Run p e below Q m T q Ls (.double v :: st)) (hq : pc + 2 = q := by rfl) : own_Run p e below Q m T pc Ls st := by
  obtain ⟨⟨hx, hby, -⟩, vm0, locs, X, -⟩ := A
  subst hby hq
  refine own_by (fun t z => ?_) k
  exact XS.dload X.here hx rfl hd hl z
theorem own_dstoreN (A : own_At w p l e R s m args below meth c bytes ret own nm mx Z n0 a0 EL sf T h cells slots) {i : Fin 4} {v : UInt64} {L' : Array Slot} (hd : decode bytes pc = .ok (.dstore_n i, 1)) (hl : storeLocals Ls i.val (.double v) = some L') (k : own_Run p e below Q m T q L' rest) (hq : pc + 1 = q := by rfl) : own_Run p e below Q m T pc Ls (.double v :: rest) := by
  obtain ⟨⟨hx, hby, -⟩, vm0, locs, X, -⟩ := A
  subst hby hq
  refine own_by (fun t z => ?_) k
  exact XS.dstoreN X.here hx rfl hd rfl hl z
theorem own_dstore (A : own_At w p l e R s m args below meth c bytes ret own nm mx Z n0 a0 EL sf T h cells slots) {i : Nat} {v : UInt64} {L' : Array Slot} (hd : decode bytes pc = .ok (.dstore i, 2)) (hl : storeLocals Ls i (.double v) = some L') (k : own_Run p e below Q m T q L' rest) (hq : pc + 2 = q := by rfl) : own_Run p e below Q m T pc Ls (.double v :: rest) := by
  obtain ⟨⟨hx, hby, -⟩, vm0, locs, X, -⟩ := A
  subst hby hq
  refine own_by (fun t z => ?_) k
  exact XS.dstore X.here hx rfl hd rfl hl z
theorem own_astoreN (A : own_At w p l e R s m args below meth c bytes ret own nm mx Z n0 a0 EL sf T h cells slots) {i : Fin 4} {v : Value} {L' : Array Slot} (hd : decode bytes pc = .ok (.astore_n i, 1)) (hv : v.isRef = true) (hl : storeLocals Ls i.val v = some L') (k : own_Run p e below Q m T q L' rest) (hq : pc + 1 = q := by rfl) : own_Run p e below Q m T pc Ls (v :: rest) := by
  obtain ⟨⟨hx, hby, -⟩, vm0, locs, X, -⟩ := A
  subst hby hq
  refine own_by (fun t z => ?_) k
  exact XS.astoreN X.here hx rfl hd rfl hv hl z
theorem own_astore (A : own_At w p l e R s m args below meth c bytes ret own nm mx Z n0 a0 EL sf T h cells slots) {i : Nat} {v : Value} {L' : Array Slot} (hd : decode bytes pc = .ok (.astore i, 2)) (hv : v.isRef = true) (hl : storeLocals Ls i v = some L') (k : own_Run p e below Q m T q L' rest) (hq : pc + 2 = q := by rfl) : own_Run p e below Q m T pc Ls (v :: rest) := by
  obtain ⟨⟨hx, hby, -⟩, vm0, locs, X, -⟩ := A
  subst hby hq
  refine own_by (fun t z => ?_) k
  exact XS.astore X.here hx rfl hd rfl hv hl z
theorem own_iconst (A : own_At w p l e R s m args below meth c bytes ret own nm mx Z n0 a0 EL sf T h cells slots) {i : Int} (v : Int32) (hd : decode bytes pc = .ok (.iconst i, 1)) (hv : Int32.ofInt i = v) (k : own_Run p e below Q m T q Ls (.int v :: st)) (hq : pc + 1 = q := by rfl) : own_Run p e below Q m T pc Ls st := by
  obtain ⟨⟨hx, hby, -⟩, vm0, locs, X, -⟩ := A
  subst hby hq hv
  refine own_by (fun t z => ?_) k
  exact XS.iconst X.here hx rfl hd z
theorem own_bipush (A : own_At w p l e R s m args below meth c bytes ret own nm mx Z n0 a0 EL sf T h cells slots) {i : Int} (v : Int32) (hd : decode bytes pc = .ok (.bipush i, 2)) (hv : (Int8.ofInt i).toInt32 = v) (k : own_Run p e below Q m T q Ls (.int v :: st)) (hq : pc + 2 = q := by rfl) : own_Run p e below Q m T pc Ls st := by
  obtain ⟨⟨hx, hby, -⟩, vm0, locs, X, -⟩ := A
  subst hby hq hv
  refine own_by (fun t z => ?_) k
  exact XS.bipush X.here hx rfl hd z
theorem own_sipush (A : own_At w p l e R s m args below meth c bytes ret own nm mx Z n0 a0 EL sf T h cells slots) {i : Int} (v : Int32) (hd : decode bytes pc = .ok (.sipush i, 3)) (hv : (Int16.ofInt i).toInt32 = v) (k : own_Run p e below Q m T q Ls (.int v :: st)) (hq : pc + 3 = q := by rfl) : own_Run p e below Q m T pc Ls st := by
  obtain ⟨⟨hx, hby, -⟩, vm0, locs, X, -⟩ := A
  subst hby hq hv
  refine own_by (fun t z => ?_) k
  exact XS.sipush X.here hx rfl hd z
theorem own_lconst (A : own_At w p l e R s m args below meth c bytes ret own nm mx Z n0 a0 EL sf T h cells slots) {i : Fin 2} (v : Int64) (hd : decode bytes pc = .ok (.lconst i, 1)) (hv : Int64.ofNat i = v) (k : own_Run p e below Q m T q Ls (.long v :: st)) (hq : pc + 1 = q := by rfl) : own_Run p e below Q m T pc Ls st := by
  obtain ⟨⟨hx, hby, -⟩, vm0, locs, X, -⟩ := A
  subst hby hq hv
  refine own_by (fun t z => ?_) k
  exact XS.lconst X.here hx rfl hd z
theorem own_aconstNull (A : own_At w p l e R s m args below meth c bytes ret own nm mx Z n0 a0 EL sf T h cells slots)  (hd : decode bytes pc = .ok (.aconst_null, 1))  (k : own_Run p e below Q m T q Ls (.null :: st)) (hq : pc + 1 = q := by rfl) : own_Run p e below Q m T pc Ls st := by
  obtain ⟨⟨hx, hby, -⟩, vm0, locs, X, -⟩ := A
  subst hby hq
  refine own_by (fun t z => ?_) k
  exact XS.aconstNull X.here hx rfl hd  z
theorem own_iadd (A : own_At w p l e R s m args below meth c bytes ret own nm mx Z n0 a0 EL sf T h cells slots) {x y : Int32} (hd : decode bytes pc = .ok (.iadd, 1))  (k : own_Run p e below Q m T q Ls (.int (x + y) :: rest)) (hq : pc + 1 = q := by rfl) : own_Run p e below Q m T pc Ls (.int y :: .int x :: rest) := by
  obtain ⟨⟨hx, hby, -⟩, vm0, locs, X, -⟩ := A
  subst hby hq
  refine own_by (fun t z => ?_) k
  exact XS.iadd X.here hx rfl hd rfl z
theorem own_ladd (A : own_At w p l e R s m args below meth c bytes ret own nm mx Z n0 a0 EL sf T h cells slots) {x y : Int64} (hd : decode bytes pc = .ok (.ladd, 1))  (k : own_Run p e below Q m T q Ls (.long (x + y) :: rest)) (hq : pc + 1 = q := by rfl) : own_Run p e below Q m T pc Ls (.long y :: .long x :: rest) := by
  obtain ⟨⟨hx, hby, -⟩, vm0, locs, X, -⟩ := A
  subst hby hq
  refine own_by (fun t z => ?_) k
  exact XS.ladd X.here hx rfl hd rfl z
theorem own_isub (A : own_At w p l e R s m args below meth c bytes ret own nm mx Z n0 a0 EL sf T h cells slots) {x y : Int32} (hd : decode bytes pc = .ok (.isub, 1))  (k : own_Run p e below Q m T q Ls (.int (x - y) :: rest)) (hq : pc + 1 = q := by rfl) : own_Run p e below Q m T pc Ls (.int y :: .int x :: rest) := by
  obtain ⟨⟨hx, hby, -⟩, vm0, locs, X, -⟩ := A
  subst hby hq
  refine own_by (fun t z => ?_) k
  exact XS.isub X.here hx rfl hd rfl z
theorem own_lsub (A : own_At w p l e R s m args below meth c bytes ret own nm mx Z n0 a0 EL sf T h cells slots) {x y : Int64} (hd : decode bytes pc = .ok (.lsub, 1))  (k : own_Run p e below Q m T q Ls (.long (x - y) :: rest)) (hq : pc + 1 = q := by rfl) : own_Run p e below Q m T pc Ls (.long y :: .long x :: rest) := by
  obtain ⟨⟨hx, hby, -⟩, vm0, locs, X, -⟩ := A
  subst hby hq
  refine own_by (fun t z => ?_) k
  exact XS.lsub X.here hx rfl hd rfl z
theorem own_imul (A : own_At w p l e R s m args below meth c bytes ret own nm mx Z n0 a0 EL sf T h cells slots) {x y : Int32} (hd : decode bytes pc = .ok (.imul, 1))  (k : own_Run p e below Q m T q Ls (.int (x * y) :: rest)) (hq : pc + 1 = q := by rfl) : own_Run p e below Q m T pc Ls (.int y :: .int x :: rest) := by
  obtain ⟨⟨hx, hby, -⟩, vm0, locs, X, -⟩ := A
  subst hby hq
  refine own_by (fun t z => ?_) k
  exact XS.imul X.here hx rfl hd rfl z
theorem own_lmul (A : own_At w p l e R s m args below meth c bytes ret own nm mx Z n0 a0 EL sf T h cells slots) {x y : Int64} (hd : decode bytes pc = .ok (.lmul, 1))  (k : own_Run p e below Q m T q Ls (.long (x * y) :: rest)) (hq : pc + 1 = q := by rfl) : own_Run p e below Q m T pc Ls (.long y :: .long x :: rest) := by
  obtain ⟨⟨hx, hby, -⟩, vm0, locs, X, -⟩ := A
  subst hby hq
  refine own_by (fun t z => ?_) k
  exact XS.lmul X.here hx rfl hd rfl z
theorem own_iand (A : own_At w p l e R s m args below meth c bytes ret own nm mx Z n0 a0 EL sf T h cells slots) {x y : Int32} (hd : decode bytes pc = .ok (.iand, 1))  (k : own_Run p e below Q m T q Ls (.int (x &&& y) :: rest)) (hq : pc + 1 = q := by rfl) : own_Run p e below Q m T pc Ls (.int y :: .int x :: rest) := by
  obtain ⟨⟨hx, hby, -⟩, vm0, locs, X, -⟩ := A
  subst hby hq
  refine own_by (fun t z => ?_) k
  exact XS.iand X.here hx rfl hd rfl z
theorem own_land (A : own_At w p l e R s m args below meth c bytes ret own nm mx Z n0 a0 EL sf T h cells slots) {x y : Int64} (hd : decode bytes pc = .ok (.land, 1))  (k : own_Run p e below Q m T q Ls (.long (x &&& y) :: rest)) (hq : pc + 1 = q := by rfl) : own_Run p e below Q m T pc Ls (.long y :: .long x :: rest) := by
  obtain ⟨⟨hx, hby, -⟩, vm0, locs, X, -⟩ := A
  subst hby hq
  refine own_by (fun t z => ?_) k
  exact XS.land X.here hx rfl hd rfl z
theorem own_ior (A : own_At w p l e R s m args below meth c bytes ret own nm mx Z n0 a0 EL sf T h cells slots) {x y : Int32} (hd : decode bytes pc = .ok (.ior, 1))  (k : own_Run p e below Q m T q Ls (.int (x ||| y) :: rest)) (hq : pc + 1 = q := by rfl) : own_Run p e below Q m T pc Ls (.int y :: .int x :: rest) := by
  obtain ⟨⟨hx, hby, -⟩, vm0, locs, X, -⟩ := A
  subst hby hq
  refine own_by (fun t z => ?_) k
  exact XS.ior X.here hx rfl hd rfl z
theorem own_lor (A : own_At w p l e R s m args below meth c bytes ret own nm mx Z n0 a0 EL sf T h cells slots) {x y : Int64} (hd : decode bytes pc = .ok (.lor, 1))  (k : own_Run p e below Q m T q Ls (.long (x ||| y) :: rest)) (hq : pc + 1 = q := by rfl) : own_Run p e below Q m T pc Ls (.long y :: .long x :: rest) := by
  obtain ⟨⟨hx, hby, -⟩, vm0, locs, X, -⟩ := A
  subst hby hq
  refine own_by (fun t z => ?_) k
  exact XS.lor X.here hx rfl hd rfl z
theorem own_ixor (A : own_At w p l e R s m args below meth c bytes ret own nm mx Z n0 a0 EL sf T h cells slots) {x y : Int32} (hd : decode bytes pc = .ok (.ixor, 1))  (k : own_Run p e below Q m T q Ls (.int (x ^^^ y) :: rest)) (hq : pc + 1 = q := by rfl) : own_Run p e below Q m T pc Ls (.int y :: .int x :: rest) := by
  obtain ⟨⟨hx, hby, -⟩, vm0, locs, X, -⟩ := A
  subst hby hq
  refine own_by (fun t z => ?_) k
  exact XS.ixor X.here hx rfl hd rfl z
theorem own_lxor (A : own_At w p l e R s m args below meth c bytes ret own nm mx Z n0 a0 EL sf T h cells slots) {x y : Int64} (hd : decode bytes pc = .ok (.lxor, 1))  (k : own_Run p e below Q m T q Ls (.long (x ^^^ y) :: rest)) (hq : pc + 1 = q := by rfl) : own_Run p e below Q m T pc Ls (.long y :: .long x :: rest) := by
  obtain ⟨⟨hx, hby, -⟩, vm0, locs, X, -⟩ := A
  subst hby hq
  refine own_by (fun t z => ?_) k
  exact XS.lxor X.here hx rfl hd rfl z
theorem own_ishl (A : own_At w p l e R s m args below meth c bytes ret own nm mx Z n0 a0 EL sf T h cells slots) {x y : Int32} (hd : decode bytes pc = .ok (.ishl, 1))  (k : own_Run p e below Q m T q Ls (.int (x <<< (y &&& 31)) :: rest)) (hq : pc + 1 = q := by rfl) : own_Run p e below Q m T pc Ls (.int y :: .int x :: rest) := by
  obtain ⟨⟨hx, hby, -⟩, vm0, locs, X, -⟩ := A
  subst hby hq
  refine own_by (fun t z => ?_) k
  exact XS.ishl X.here hx rfl hd rfl z
theorem own_ishr (A : own_At w p l e R s m args below meth c bytes ret own nm mx Z n0 a0 EL sf T h cells slots) {x y : Int32} (hd : decode bytes pc = .ok (.ishr, 1))  (k : own_Run p e below Q m T q Ls (.int (x >>> (y &&& 31)) :: rest)) (hq : pc + 1 = q := by rfl) : own_Run p e below Q m T pc Ls (.int y :: .int x :: rest) := by
  obtain ⟨⟨hx, hby, -⟩, vm0, locs, X, -⟩ := A
  subst hby hq
  refine own_by (fun t z => ?_) k
  exact XS.ishr X.here hx rfl hd rfl z
theorem own_iushr (A : own_At w p l e R s m args below meth c bytes ret own nm mx Z n0 a0 EL sf T h cells slots) {x y : Int32} (hd : decode bytes pc = .ok (.iushr, 1))  (k : own_Run p e below Q m T q Ls (.int ((x.toUInt32 >>> (y &&& 31).toUInt32).toInt32) :: rest)) (hq : pc + 1 = q := by rfl) : own_Run p e below Q m T pc Ls (.int y :: .int x :: rest) := by
  obtain ⟨⟨hx, hby, -⟩, vm0, locs, X, -⟩ := A
  subst hby hq
  refine own_by (fun t z => ?_) k
  exact XS.iushr X.here hx rfl hd rfl z
theorem own_idiv (A : own_At w p l e R s m args below meth c bytes ret own nm mx Z n0 a0 EL sf T h cells slots) {x y : Int32} (hd : decode bytes pc = .ok (.idiv, 1)) (hy : y ≠ 0) (k : own_Run p e below Q m T q Ls (.int (x / y) :: rest)) (hq : pc + 1 = q := by rfl) : own_Run p e below Q m T pc Ls (.int y :: .int x :: rest) := by
  obtain ⟨⟨hx, hby, -⟩, vm0, locs, X, -⟩ := A
  subst hby hq
  refine own_by (fun t z => ?_) k
  exact XS.idiv X.here hx rfl hd rfl hy z
theorem own_ldiv (A : own_At w p l e R s m args below meth c bytes ret own nm mx Z n0 a0 EL sf T h cells slots) {x y : Int64} (hd : decode bytes pc = .ok (.ldiv, 1)) (hy : y ≠ 0) (k : own_Run p e below Q m T q Ls (.long (x / y) :: rest)) (hq : pc + 1 = q := by rfl) : own_Run p e below Q m T pc Ls (.long y :: .long x :: rest) := by
  obtain ⟨⟨hx, hby, -⟩, vm0, locs, X, -⟩ := A
  subst hby hq
  refine own_by (fun t z => ?_) k
  exact XS.ldiv X.here hx rfl hd rfl hy z
theorem own_lrem (A : own_At w p l e R s m args below meth c bytes ret own nm mx Z n0 a0 EL sf T h cells slots) {x y : Int64} (hd : decode bytes pc = .ok (.lrem, 1)) (hy : y ≠ 0) (k : own_Run p e below Q m T q Ls (.long (x - (x / y) * y) :: rest)) (hq : pc + 1 = q := by rfl) : own_Run p e below Q m T pc Ls (.long y :: .long x :: rest) := by
  obtain ⟨⟨hx, hby, -⟩, vm0, locs, X, -⟩ := A
  subst hby hq
  refine own_by (fun t z => ?_) k
  exact XS.lrem X.here hx rfl hd rfl hy z
theorem own_irem (A : own_At w p l e R s m args below meth c bytes ret own nm mx Z n0 a0 EL sf T h cells slots) {x y : Int32} (hd : decode bytes pc = .ok (.irem, 1)) (hy : y ≠ 0) (k : own_Run p e below Q m T q Ls (.int (x % y) :: rest)) (hq : pc + 1 = q := by rfl) : own_Run p e below Q m T pc Ls (.int y :: .int x :: rest) := by
  obtain ⟨⟨hx, hby, -⟩, vm0, locs, X, -⟩ := A
  subst hby hq
  refine own_by (fun t z => ?_) k
  exact iremM X hx rfl hd rfl hy z
theorem own_ineg (A : own_At w p l e R s m args below meth c bytes ret own nm mx Z n0 a0 EL sf T h cells slots) {x : Int32} (hd : decode bytes pc = .ok (.ineg, 1))  (k : own_Run p e below Q m T q Ls (.int (-x) :: rest)) (hq : pc + 1 = q := by rfl) : own_Run p e below Q m T pc Ls (.int x :: rest) := by
  obtain ⟨⟨hx, hby, -⟩, vm0, locs, X, -⟩ := A
  subst hby hq
  refine own_by (fun t z => ?_) k
  exact XS.ineg X.here hx rfl hd rfl z
theorem own_lneg (A : own_At w p l e R s m args below meth c bytes ret own nm mx Z n0 a0 EL sf T h cells slots) {x : Int64} (hd : decode bytes pc = .ok (.lneg, 1))  (k : own_Run p e below Q m T q Ls (.long (-x) :: rest)) (hq : pc + 1 = q := by rfl) : own_Run p e below Q m T pc Ls (.long x :: rest) := by
  obtain ⟨⟨hx, hby, -⟩, vm0, locs, X, -⟩ := A
  subst hby hq
  refine own_by (fun t z => ?_) k
  exact XS.lneg X.here hx rfl hd rfl z
theorem own_i2b (A : own_At w p l e R s m args below meth c bytes ret own nm mx Z n0 a0 EL sf T h cells slots) {x : Int32} (hd : decode bytes pc = .ok (.i2b, 1))  (k : own_Run p e below Q m T q Ls (.int (x.toInt8.toInt32) :: rest)) (hq : pc + 1 = q := by rfl) : own_Run p e below Q m T pc Ls (.int x :: rest) := by
  obtain ⟨⟨hx, hby, -⟩, vm0, locs, X, -⟩ := A
  subst hby hq
  refine own_by (fun t z => ?_) k
  exact XS.i2b X.here hx rfl hd rfl z
theorem own_i2c (A : own_At w p l e R s m args below meth c bytes ret own nm mx Z n0 a0 EL sf T h cells slots) {x : Int32} (hd : decode bytes pc = .ok (.i2c, 1))  (k : own_Run p e below Q m T q Ls (.int (x.toUInt32.toUInt16.toUInt32.toInt32) :: rest)) (hq : pc + 1 = q := by rfl) : own_Run p e below Q m T pc Ls (.int x :: rest) := by
  obtain ⟨⟨hx, hby, -⟩, vm0, locs, X, -⟩ := A
  subst hby hq
  refine own_by (fun t z => ?_) k
  exact XS.i2c X.here hx rfl hd rfl z
theorem own_i2s (A : own_At w p l e R s m args below meth c bytes ret own nm mx Z n0 a0 EL sf T h cells slots) {x : Int32} (hd : decode bytes pc = .ok (.i2s, 1))  (k : own_Run p e below Q m T q Ls (.int (x.toInt16.toInt32) :: rest)) (hq : pc + 1 = q := by rfl) : own_Run p e below Q m T pc Ls (.int x :: rest) := by
  obtain ⟨⟨hx, hby, -⟩, vm0, locs, X, -⟩ := A
  subst hby hq
  refine own_by (fun t z => ?_) k
  exact XS.i2s X.here hx rfl hd rfl z
theorem own_i2l (A : own_At w p l e R s m args below meth c bytes ret own nm mx Z n0 a0 EL sf T h cells slots) {x : Int32} (hd : decode bytes pc = .ok (.i2l, 1))  (k : own_Run p e below Q m T q Ls (.long (x.toInt64) :: rest)) (hq : pc + 1 = q := by rfl) : own_Run p e below Q m T pc Ls (.int x :: rest) := by
  obtain ⟨⟨hx, hby, -⟩, vm0, locs, X, -⟩ := A
  subst hby hq
  refine own_by (fun t z => ?_) k
  exact XS.i2l X.here hx rfl hd rfl z
theorem own_l2i (A : own_At w p l e R s m args below meth c bytes ret own nm mx Z n0 a0 EL sf T h cells slots) {x : Int64} (hd : decode bytes pc = .ok (.l2i, 1))  (k : own_Run p e below Q m T q Ls (.int (x.toInt32) :: rest)) (hq : pc + 1 = q := by rfl) : own_Run p e below Q m T pc Ls (.long x :: rest) := by
  obtain ⟨⟨hx, hby, -⟩, vm0, locs, X, -⟩ := A
  subst hby hq
  refine own_by (fun t z => ?_) k
  exact XS.l2i X.here hx rfl hd rfl z
theorem own_lcmp (A : own_At w p l e R s m args below meth c bytes ret own nm mx Z n0 a0 EL sf T h cells slots) {x y : Int64} (hd : decode bytes pc = .ok (.lcmp, 1))  (k : own_Run p e below Q m T q Ls (.int (lcmpW x y) :: rest)) (hq : pc + 1 = q := by rfl) : own_Run p e below Q m T pc Ls (.long y :: .long x :: rest) := by
  obtain ⟨⟨hx, hby, -⟩, vm0, locs, X, -⟩ := A
  subst hby hq
  refine own_by (fun t z => ?_) k
  exact XS.lcmp X.here hx rfl hd rfl z
theorem own_dup (A : own_At w p l e R s m args below meth c bytes ret own nm mx Z n0 a0 EL sf T h cells slots) {x : Value} (hd : decode bytes pc = .ok (.dup, 1)) (hc : x.category = 1) (k : own_Run p e below Q m T q Ls (x :: x :: rest)) (hq : pc + 1 = q := by rfl) : own_Run p e below Q m T pc Ls (x :: rest) := by
  obtain ⟨⟨hx, hby, -⟩, vm0, locs, X, -⟩ := A
  subst hby hq
  refine own_by (fun t z => ?_) k
  exact XS.dup X.here hx rfl hd rfl hc z
theorem own_pop (A : own_At w p l e R s m args below meth c bytes ret own nm mx Z n0 a0 EL sf T h cells slots) {x : Value} (hd : decode bytes pc = .ok (.pop, 1)) (hc : x.category = 1) (k : own_Run p e below Q m T q Ls rest) (hq : pc + 1 = q := by rfl) : own_Run p e below Q m T pc Ls (x :: rest) := by
  obtain ⟨⟨hx, hby, -⟩, vm0, locs, X, -⟩ := A
  subst hby hq
  refine own_by (fun t z => ?_) k
  exact XS.pop X.here hx rfl hd rfl hc z
theorem own_dupX1 (A : own_At w p l e R s m args below meth c bytes ret own nm mx Z n0 a0 EL sf T h cells slots) {x y : Value} (hd : decode bytes pc = .ok (.dup_x1, 1)) (hc : x.category = 1) (hc2 : y.category = 1) (k : own_Run p e below Q m T q Ls (x :: y :: x :: rest)) (hq : pc + 1 = q := by rfl) : own_Run p e below Q m T pc Ls (x :: y :: rest) := by
  obtain ⟨⟨hx, hby, -⟩, vm0, locs, X, -⟩ := A
  subst hby hq
  refine own_by (fun t z => ?_) k
  exact XS.dupX1 X.here hx rfl hd rfl hc hc2 z
theorem own_iinc (A : own_At w p l e R s m args below meth c bytes ret own nm mx Z n0 a0 EL sf T h cells slots) {i : Nat} {cst : Int} {x v : Int32} {L' : Array Slot} (hd : decode bytes pc = .ok (.iinc i cst, 3)) (hl : Ls[i]? = some (.val (.int x))) (hv : Int32.ofInt cst = v) (hl' : storeLocals Ls i (.int (x + v)) = some L') (k : own_Run p e below Q m T q L' st) (hq : pc + 3 = q := by rfl) : own_Run p e below Q m T pc Ls st := by
  obtain ⟨⟨hx, hby, -⟩, vm0, locs, X, -⟩ := A
  subst hby hq hv
  refine own_by (fun t z => ?_) k
  exact XS.iinc X.here hx rfl hd hl hl' z
theorem own_dconst0 (A : own_At w p l e R s m args below meth c bytes ret own nm mx Z n0 a0 EL sf T h cells slots) (hd : decode bytes pc = .ok (.dconst 0, 1)) (k : own_Run p e below Q m T q Ls (.double FP.dconst0 :: st)) (hq : pc + 1 = q := by rfl) : own_Run p e below Q m T pc Ls st := by
  obtain ⟨⟨hx, hby, -⟩, vm0, locs, X, -⟩ := A
  subst hby hq
  refine own_by (fun t z => ?_) k
  exact XS.dconst0 X.here hx rfl hd rfl z
theorem own_dconst1 (A : own_At w p l e R s m args below meth c bytes ret own nm mx Z n0 a0 EL sf T h cells slots) (hd : decode bytes pc = .ok (.dconst 1, 1)) (k : own_Run p e below Q m T q Ls (.double FP.dconst1 :: st)) (hq : pc + 1 = q := by rfl) : own_Run p e below Q m T pc Ls st := by
  obtain ⟨⟨hx, hby, -⟩, vm0, locs, X, -⟩ := A
  subst hby hq
  refine own_by (fun t z => ?_) k
  exact XS.dconst1 X.here hx rfl hd rfl z
theorem own_i2d (A : own_At w p l e R s m args below meth c bytes ret own nm mx Z n0 a0 EL sf T h cells slots) {x : Int32} (hd : decode bytes pc = .ok (.i2d, 1))  (k : own_Run p e below Q m T q Ls (.double (FP.i2d x) :: rest)) (hq : pc + 1 = q := by rfl) : own_Run p e below Q m T pc Ls (.int x :: rest) := by
  obtain ⟨⟨hx, hby, -⟩, vm0, locs, X, -⟩ := A
  subst hby hq
  refine own_by (fun t z => ?_) k
  exact XS.i2dS X.here hx rfl hd rfl rfl z
theorem own_l2d (A : own_At w p l e R s m args below meth c bytes ret own nm mx Z n0 a0 EL sf T h cells slots) {x : Int64} (hd : decode bytes pc = .ok (.l2d, 1))  (k : own_Run p e below Q m T q Ls (.double (FP.l2d x) :: rest)) (hq : pc + 1 = q := by rfl) : own_Run p e below Q m T pc Ls (.long x :: rest) := by
  obtain ⟨⟨hx, hby, -⟩, vm0, locs, X, -⟩ := A
  subst hby hq
  refine own_by (fun t z => ?_) k
  exact XS.l2dS X.here hx rfl hd rfl rfl z
theorem own_dcmp (A : own_At w p l e R s m args below meth c bytes ret own nm mx Z n0 a0 EL sf T h cells slots) {o : CmpOp} {x y : UInt64} (hd : decode bytes pc = .ok (.dcmp o, 1))  (k : own_Run p e below Q m T q Ls (.int (cmpValue (FP.dcmp x y) o) :: rest)) (hq : pc + 1 = q := by rfl) : own_Run p e below Q m T pc Ls (.double y :: .double x :: rest) := by
  obtain ⟨⟨hx, hby, -⟩, vm0, locs, X, -⟩ := A
  subst hby hq
  refine own_by (fun t z => ?_) k
  exact XS.dcmpS X.here hx rfl hd rfl rfl z
theorem own_dadd (A : own_At w p l e R s m args below meth c bytes ret own nm mx Z n0 a0 EL sf T h cells slots) {x y : UInt64} (hd : decode bytes pc = .ok (.dadd, 1)) (hn : Jvm.Free.Fl.NoNaN64 (FP.dadd x y)) (k : own_Run p e below Q m T q Ls (.double (FP.dadd x y) :: rest)) (hq : pc + 1 = q := by rfl) : own_Run p e below Q m T pc Ls (.double y :: .double x :: rest) := by
  obtain ⟨⟨hx, hby, -⟩, vm0, locs, X, -⟩ := A
  subst hby hq
  refine own_by (fun t z => ?_) k
  exact XS.daddS X.here hx rfl hd rfl hn rfl z
theorem own_ddiv (A : own_At w p l e R s m args below meth c bytes ret own nm mx Z n0 a0 EL sf T h cells slots) {x y : UInt64} (hd : decode bytes pc = .ok (.ddiv, 1)) (hn : Jvm.Free.Fl.NoNaN64 (FP.ddiv x y)) (k : own_Run p e below Q m T q Ls (.double (FP.ddiv x y) :: rest)) (hq : pc + 1 = q := by rfl) : own_Run p e below Q m T pc Ls (.double y :: .double x :: rest) := by
  obtain ⟨⟨hx, hby, -⟩, vm0, locs, X, -⟩ := A
  subst hby hq
  refine own_by (fun t z => ?_) k
  exact XS.ddivS X.here hx rfl hd rfl hn rfl z
theorem own_goto (A : own_At w p l e R s m args below meth c bytes ret own nm mx Z n0 a0 EL sf T h cells slots) {o : Int} (hd : decode bytes pc = .ok (.goto o, 3)) (k : own_Run p e below Q m T q Ls st) (ho : 0 ≤ (pc : Int) + o := by decide) (hq : ((pc : Int) + o).toNat = q := by decide) : own_Run p e below Q m T pc Ls st := by
  obtain ⟨⟨hx, hby, -⟩, vm0, locs, X, -⟩ := A
  subst hby
  refine own_by (fun t z => ?_) k
  exact XS.goto X.here hx rfl (pc0 := pc) rfl hd ho hq z
def own_cp : ClassFile.Cond → Int32 → Int32 → Prop
  | .eq, x, y => x = y
  | .ne, x, y => ¬ x = y
  | .lt, x, y => x < y
  | .ge, x, y => ¬ x < y
  | .gt, x, y => y < x
  | .le, x, y => ¬ y < x
def own_cn : ClassFile.Cond → Int32 → Int32 → Prop
  | .eq, x, y => ¬ x = y
  | .ne, x, y => x = y
  | .lt, x, y => ¬ x < y
  | .ge, x, y => x < y
  | .gt, x, y => ¬ y < x
  | .le, x, y => y < x
theorem own_cpT {cd : ClassFile.Cond} {x y : Int32} (h : own_cp cd x y) : if_icmp.holds cd x y = true := by
  cases cd
  all_goals simp only [own_cp] at h
  · exact (teq h).1
  · exact (feq h).2
  · exact (tlt h).1
  · exact (flt h).2.1
  · exact (tlt h).2.2.1
  · exact (flt h).2.2.2
theorem own_cnF {cd : ClassFile.Cond} {x y : Int32} (h : own_cn cd x y) : if_icmp.holds cd x y = false := by
  cases cd
  all_goals simp only [own_cn] at h
  · exact (feq h).1
  · exact (teq h).2
  · exact (flt h).1
  · exact (tlt h).2.1
  · exact (flt h).2.2.1
  · exact (tlt h).2.2.2
theorem own_cpn (cd : ClassFile.Cond) (x y : Int32) : own_cp cd x y ∨ own_cn cd x y := by
  cases cd <;> simp only [own_cp, own_cn]
  · exact Classical.em _
  · exact (Classical.em _).symm
  · exact Classical.em _
  · exact (Classical.em _).symm
  · exact Classical.em _
  · exact (Classical.em _).symm
theorem own_ifcT (A : own_At w p l e R s m args below meth c bytes ret own nm mx Z n0 a0 EL sf T h cells slots) {cd : ClassFile.Cond} {x : Int32} {o : Int} (hd : decode bytes pc = .ok (.ifCond cd o, 3)) (hc : own_cp cd x (0 : Int32)) (k : own_Run p e below Q m T q Ls rest) (ho : 0 ≤ (pc : Int) + o := by decide) (hq : ((pc : Int) + o).toNat = q := by decide) : own_Run p e below Q m T pc Ls (.int x :: rest) := by
  obtain ⟨⟨hx, hby, -⟩, vm0, locs, X, -⟩ := A
  subst hby
  refine own_by (fun t z => ?_) k
  exact XS.ifYes X.here hx rfl (pc0 := pc) rfl hd rfl (by rw [if0]; exact own_cpT hc) ho hq z
theorem own_ifcF (A : own_At w p l e R s m args below meth c bytes ret own nm mx Z n0 a0 EL sf T h cells slots) {cd : ClassFile.Cond} {x : Int32} {o : Int} (hd : decode bytes pc = .ok (.ifCond cd o, 3)) (hc : own_cn cd x (0 : Int32)) (k : own_Run p e below Q m T q Ls rest) (hq : pc + 3 = q := by rfl) : own_Run p e below Q m T pc Ls (.int x :: rest) := by
  obtain ⟨⟨hx, hby, -⟩, vm0, locs, X, -⟩ := A
  subst hby hq
  refine own_by (fun t z => ?_) k
  exact XS.ifNo X.here hx rfl hd rfl (by rw [if0]; exact own_cnF hc) z
theorem own_ifc (A : own_At w p l e R s m args below meth c bytes ret own nm mx Z n0 a0 EL sf T h cells slots) {cd : ClassFile.Cond} {x : Int32} {o : Int} {q' : Nat} (hd : decode bytes pc = .ok (.ifCond cd o, 3)) (kt : own_cp cd x (0 : Int32) → own_Run p e below Q m T q Ls rest) (kf : own_cn cd x (0 : Int32) → own_Run p e below Q m T q' Ls rest) (ho : 0 ≤ (pc : Int) + o := by decide) (hq : ((pc : Int) + o).toNat = q := by decide) (hq' : pc + 3 = q' := by rfl) : own_Run p e below Q m T pc Ls (.int x :: rest) :=
  (own_cpn cd x (0 : Int32)).elim (fun z => own_ifcT A hd z (kt z) ho hq) (fun z => own_ifcF A hd z (kf z) hq')
theorem own_icmpT (A : own_At w p l e R s m args below meth c bytes ret own nm mx Z n0 a0 EL sf T h cells slots) {cd : ClassFile.Cond} {x y : Int32} {o : Int} (hd : decode bytes pc = .ok (.if_icmp cd o, 3)) (hc : own_cp cd x y) (k : own_Run p e below Q m T q Ls rest) (ho : 0 ≤ (pc : Int) + o := by decide) (hq : ((pc : Int) + o).toNat = q := by decide) : own_Run p e below Q m T pc Ls (.int y :: .int x :: rest) := by
  obtain ⟨⟨hx, hby, -⟩, vm0, locs, X, -⟩ := A
  subst hby
  refine own_by (fun t z => ?_) k
  exact XS.icmpYes X.here hx rfl (pc0 := pc) rfl hd rfl (own_cpT hc) ho hq z
theorem own_icmpF (A : own_At w p l e R s m args below meth c bytes ret own nm mx Z n0 a0 EL sf T h cells slots) {cd : ClassFile.Cond} {x y : Int32} {o : Int} (hd : decode bytes pc = .ok (.if_icmp cd o, 3)) (hc : own_cn cd x y) (k : own_Run p e below Q m T q Ls rest) (hq : pc + 3 = q := by rfl) : own_Run p e below Q m T pc Ls (.int y :: .int x :: rest) := by
  obtain ⟨⟨hx, hby, -⟩, vm0, locs, X, -⟩ := A
  subst hby hq
  refine own_by (fun t z => ?_) k
  exact XS.icmpNo X.here hx rfl hd rfl (own_cnF hc) z
theorem own_icmp (A : own_At w p l e R s m args below meth c bytes ret own nm mx Z n0 a0 EL sf T h cells slots) {cd : ClassFile.Cond} {x y : Int32} {o : Int} {q' : Nat} (hd : decode bytes pc = .ok (.if_icmp cd o, 3)) (kt : own_cp cd x y → own_Run p e below Q m T q Ls rest) (kf : own_cn cd x y → own_Run p e below Q m T q' Ls rest) (ho : 0 ≤ (pc : Int) + o := by decide) (hq : ((pc : Int) + o).toNat = q := by decide) (hq' : pc + 3 = q' := by rfl) : own_Run p e below Q m T pc Ls (.int y :: .int x :: rest) :=
  (own_cpn cd x y).elim (fun z => own_icmpT A hd z (kt z) ho hq) (fun z => own_icmpF A hd z (kf z) hq')
theorem own_acmpT (A : own_At w p l e R s m args below meth c bytes ret own nm mx Z n0 a0 EL sf T h cells slots) {cd : ClassFile.ACond} {x y : Value} {o : Int} (hd : decode bytes pc = .ok (.if_acmp cd o, 3)) (hx' : x.isRef = true) (hy' : y.isRef = true) (hc : XT.acmp cd x y = true) (k : own_Run p e below Q m T q Ls rest) (ho : 0 ≤ (pc : Int) + o := by decide) (hq : ((pc : Int) + o).toNat = q := by decide) : own_Run p e below Q m T pc Ls (y :: x :: rest) := by
  obtain ⟨⟨hx, hby, -⟩, vm0, locs, X, -⟩ := A
  subst hby
  refine own_by (fun t z => ?_) k
  exact XT.acmpYes X.here hx rfl (pc0 := pc) rfl hd rfl hx' hy' hc ho hq z
theorem own_acmpF (A : own_At w p l e R s m args below meth c bytes ret own nm mx Z n0 a0 EL sf T h cells slots) {cd : ClassFile.ACond} {x y : Value} {o : Int} (hd : decode bytes pc = .ok (.if_acmp cd o, 3)) (hx' : x.isRef = true) (hy' : y.isRef = true) (hc : XT.acmp cd x y = false) (k : own_Run p e below Q m T q Ls rest) (hq : pc + 3 = q := by rfl) : own_Run p e below Q m T pc Ls (y :: x :: rest) := by
  obtain ⟨⟨hx, hby, -⟩, vm0, locs, X, -⟩ := A
  subst hby hq
  refine own_by (fun t z => ?_) k
  exact XT.acmpNo X.here hx rfl hd rfl hx' hy' hc z
theorem own_ifnullT (A : own_At w p l e R s m args below meth c bytes ret own nm mx Z n0 a0 EL sf T h cells slots) {b : Addr} {o : Int} (hd : decode bytes pc = .ok (.ifnull o, 3)) (k : own_Run p e below Q m T q Ls rest) (ho : 0 ≤ (pc : Int) + o := by decide) (hq : ((pc : Int) + o).toNat = q := by decide) : own_Run p e below Q m T pc Ls (.null :: rest) := by
  obtain ⟨⟨hx, hby, -⟩, vm0, locs, X, -⟩ := A
  subst hby
  refine own_by (fun t z => ?_) k
  exact XS.ifnullYes X.here hx rfl (pc0 := pc) rfl hd rfl ho hq z
theorem own_ifnullF (A : own_At w p l e R s m args below meth c bytes ret own nm mx Z n0 a0 EL sf T h cells slots) {b : Addr} {o : Int} (hd : decode bytes pc = .ok (.ifnull o, 3)) (k : own_Run p e below Q m T q Ls rest) (hq : pc + 3 = q := by rfl) : own_Run p e below Q m T pc Ls (.ref b :: rest) := by
  obtain ⟨⟨hx, hby, -⟩, vm0, locs, X, -⟩ := A
  subst hby hq
  refine own_by (fun t z => ?_) k
  exact XS.ifnullNo X.here hx rfl hd rfl z
theorem own_ifnonnullT (A : own_At w p l e R s m args below meth c bytes ret own nm mx Z n0 a0 EL sf T h cells slots) {b : Addr} {o : Int} (hd : decode bytes pc = .ok (.ifnonnull o, 3)) (k : own_Run p e below Q m T q Ls rest) (ho : 0 ≤ (pc : Int) + o := by decide) (hq : ((pc : Int) + o).toNat = q := by decide) : own_Run p e below Q m T pc Ls (.ref b :: rest) := by
  obtain ⟨⟨hx, hby, -⟩, vm0, locs, X, -⟩ := A
  subst hby
  refine own_by (fun t z => ?_) k
  exact XS.ifnonnullYes X.here hx rfl (pc0 := pc) rfl hd rfl ho hq z
theorem own_ifnonnullF (A : own_At w p l e R s m args below meth c bytes ret own nm mx Z n0 a0 EL sf T h cells slots) {b : Addr} {o : Int} (hd : decode bytes pc = .ok (.ifnonnull o, 3)) (k : own_Run p e below Q m T q Ls rest) (hq : pc + 3 = q := by rfl) : own_Run p e below Q m T pc Ls (.null :: rest) := by
  obtain ⟨⟨hx, hby, -⟩, vm0, locs, X, -⟩ := A
  subst hby hq
  refine own_by (fun t z => ?_) k
  exact XS.ifnonnullNo X.here hx rfl hd rfl z
theorem own_tswIn (A : own_At w p l e R s m args below meth c bytes ret own nm mx Z n0 a0 EL sf T h cells slots) {dflt low high : Int} {offs : Array Int} {len : Nat} {i : Int32} {o : Int} (hd : decode bytes pc = .ok (.tableswitch dflt low high offs, len)) (hin : ¬ (i.toInt < low ∨ i.toInt > high)) (hoff : offs[(i.toInt - low).toNat]? = some o) (k : own_Run p e below Q m T q Ls rest) (ho : 0 ≤ (pc : Int) + o := by decide) (hq : ((pc : Int) + o).toNat = q := by decide) : own_Run p e below Q m T pc Ls (.int i :: rest) := by
  obtain ⟨⟨hx, hby, -⟩, vm0, locs, X, -⟩ := A
  subst hby
  refine own_by (fun t z => ?_) k
  exact XS.tswIn X.here hx rfl (pc0 := pc) rfl hd rfl hin hoff ho hq z
theorem own_tswOut (A : own_At w p l e R s m args below meth c bytes ret own nm mx Z n0 a0 EL sf T h cells slots) {o low high : Int} {offs : Array Int} {len : Nat} {i : Int32} (hd : decode bytes pc = .ok (.tableswitch o low high offs, len)) (hout : i.toInt < low ∨ i.toInt > high) (k : own_Run p e below Q m T q Ls rest) (ho : 0 ≤ (pc : Int) + o := by decide) (hq : ((pc : Int) + o).toNat = q := by decide) : own_Run p e below Q m T pc Ls (.int i :: rest) := by
  obtain ⟨⟨hx, hby, -⟩, vm0, locs, X, -⟩ := A
  subst hby
  refine own_by (fun t z => ?_) k
  exact XS.tswOut X.here hx rfl (pc0 := pc) rfl hd rfl hout ho hq z
theorem own_ldcI (A : own_At w p l e R s m args below meth c bytes ret own nm mx Z n0 a0 EL sf T h cells slots) {i : Nat} {v : Int32} (wc : (Jvm.Cond.constant own i v).before a0 Z = true) (hd : decode bytes pc = .ok (.ldc i, 2)) (k : own_Run p e below Q m T q Ls (.int v :: st)) (hq : pc + 2 = q := by rfl) : own_Run p e below Q m T pc Ls st := by
  obtain ⟨⟨hx, hby, -⟩, vm0, locs, X, B, hZ, hown, hT, N, Od, hEL, Ch, Sf⟩ := A
  subst hby hq
  refine own_by (fun t z => ?_) k
  exact X.ldcI hx (s := s.setVm vm0) hown (mv (s := s.setVm vm0) hZ wc) rfl hd z
theorem own_ldcWI (A : own_At w p l e R s m args below meth c bytes ret own nm mx Z n0 a0 EL sf T h cells slots) {i : Nat} {v : Int32} (wc : (Jvm.Cond.constant own i v).before a0 Z = true) (hd : decode bytes pc = .ok (.ldc_w i, 3)) (k : own_Run p e below Q m T q Ls (.int v :: st)) (hq : pc + 3 = q := by rfl) : own_Run p e below Q m T pc Ls st := by
  obtain ⟨⟨hx, hby, -⟩, vm0, locs, X, B, hZ, hown, hT, N, Od, hEL, Ch, Sf⟩ := A
  subst hby hq
  refine own_by (fun t z => ?_) k
  exact X.ldcWI hx (s := s.setVm vm0) hown (mv (s := s.setVm vm0) hZ wc) rfl hd z
theorem own_ldc2J (A : own_At w p l e R s m args below meth c bytes ret own nm mx Z n0 a0 EL sf T h cells slots) {i : Nat} {v : Int64} (wc : (Jvm.Cond.constantLong own i v).before a0 Z = true) (hd : decode bytes pc = .ok (.ldc2_w i, 3)) (k : own_Run p e below Q m T q Ls (.long v :: st)) (hq : pc + 3 = q := by rfl) : own_Run p e below Q m T pc Ls st := by
  obtain ⟨⟨hx, hby, -⟩, vm0, locs, X, B, hZ, hown, hT, N, Od, hEL, Ch, Sf⟩ := A
  subst hby hq
  refine own_by (fun t z => ?_) k
  exact X.ldc2J hx (s := s.setVm vm0) hown (mv (s := s.setVm vm0) hZ wc) rfl hd z
theorem own_getF (A : own_At w p l e R s m args below meth c bytes ret own nm mx Z n0 a0 EL sf T h cells slots) {i : Nat} {R0 O n d host : String} {a : Addr} {v : Value} (wl : (Jvm.Cond.fieldLink own i R0 n d).before a0 Z = true ∨ (Jvm.Cond.fieldLinkNest own i R0 n d host).before a0 Z = true) (via : Via Z R0 O n d) (F : Fld Z h a O n d v) (hd : decode bytes pc = .ok (.getfield i, 3))
    (k : ∀ T', own_At w p l e R s m args below meth c bytes ret own nm mx Z n0 a0 EL sf T' h cells slots → own_Run p e below Q m T' q Ls (v :: rest)) (hq : pc + 3 = q := by rfl) : own_Run p e below Q m T pc Ls (.ref a :: rest) := by
  obtain ⟨⟨hx, hby, r⟩, vm0, locs, X, B, hZ, hown, hT, N, Od, hEL, Ch, Sf⟩ := A
  subst hby hq
  obtain ⟨T', X', e', st'⟩ := getF X hx (s := s.setVm vm0) hZ hown wl via hT F (g := mkF m pc Ls (.ref a :: rest)) rfl rfl hd
  exact own_by st' (k T' ⟨⟨hx, rfl, r⟩, vm0, locs, X', B, hZ, hown, e', N, Od, hEL, Ch, Sf⟩)
theorem own_getS (A : own_At w p l e R s m args below meth c bytes ret own nm mx Z n0 a0 EL sf T h cells slots) {i : Nat} {R0 O n d : String} {v : Value} (wl : (Jvm.Cond.fieldLink own i R0 n d).before a0 Z = true) (via : Via Z R0 O n d) (F : Sta Z Z.heap O n d v) (hd : decode bytes pc = .ok (.getstatic i, 3))
    (k : ∀ T', own_At w p l e R s m args below meth c bytes ret own nm mx Z n0 a0 EL sf T' h cells slots → own_Run p e below Q m T' q Ls (v :: st)) (hq : pc + 3 = q := by rfl) : own_Run p e below Q m T pc Ls st := by
  obtain ⟨⟨hx, hby, r⟩, vm0, locs, X, B, hZ, hown, hT, N, Od, hEL, Ch, Sf⟩ := A
  subst hby hq
  obtain ⟨T', X', e', st'⟩ := getS X hx (s := s.setVm vm0) (host := "") hZ hown wl via hT (F.ext Od.2) (g := mkF m pc Ls st) rfl hd
  exact own_by st' (k T' ⟨⟨hx, rfl, r⟩, vm0, locs, X', B, hZ, hown, e', N, Od, hEL, Ch, Sf⟩)
theorem own_putF (A : own_At w p l e R s m args below meth c bytes ret own nm mx Z n0 a0 EL sf T h cells slots) {i kk : Nat} {R0 O n d host C : String} {ty : FieldType} {a : Addr} {v old : Value} (wl : (Jvm.Cond.fieldLink own i R0 n d).before a0 Z = true ∨ (Jvm.Cond.fieldLinkNest own i R0 n d host).before a0 Z = true) (via : Via Z R0 O n d) (F : Fld Z h a O n d old) (E : Exa Z h a C) (L : (Jvm.Cond.lays C O n d).before a0 Z = true ∨ ((Jvm.Cond.laysFinal C O n d).before a0 Z = true ∧ own = O ∧ nm = "<init>")) (wi : (Jvm.Cond.instantiable C kk).before a0 Z = true)
    (hty : parseFieldDescriptor d = some ty) (hn : narrow ty v = v) (hf : fits ty v = true) (ha : n0 ≤ a) (hwo : own_Wok Z EL sf h a) (hd : decode bytes pc = .ok (.putfield i, 3)) (k : ∀ T' h', own_At w p l e R s m args below meth c bytes ret own nm mx Z n0 a0 EL sf T' h' cells slots → Wr h h' a (RoadKit.slotOf Z O n d) v → own_Run p e below Q m T' q Ls rest) (hq : pc + 3 = q := by rfl) : own_Run p e below Q m T pc Ls (v :: .ref a :: rest) := by
  obtain ⟨⟨hx, hby, r1, r2, r3, r4⟩, vm0, locs, X, B, hZ, hown, hT, N, Od, hEL, Ch, Sf⟩ := A
  subst hby hq
  obtain ⟨T', h', X', e', W, st'⟩ := putF X hx (s := s.setVm vm0) hZ hown wl via hT F E (L.imp id fun z => ⟨z.1, z.2.1, r3.trans z.2.2⟩) wi hty hn hf (g := mkF m pc Ls (v :: .ref a :: rest)) rfl rfl hd
  exact own_by st' (k T' h' ⟨⟨hx, rfl, r1, r2, r3, r4⟩, vm0, _, X', B.le (Nat.le_of_eq W.size.symm), hZ, hown, e', Fr.snoc X' N ha, Od.wr W ha, hEL, Ch.trans (CHr.wr W (hwo.safe hZ Sf) Ch.1), Sf.wr Ch.1 W (hwo.safe hZ Sf)⟩ W)
theorem own_newO (A : own_At w p l e R s m args below meth c bytes ret own nm mx Z n0 a0 EL sf T h cells slots) {i n : Nat} {C : String} (w1 : (Jvm.Cond.classLink own i C).before a0 Z = true) (wi : (Jvm.Cond.instantiable C n).before a0 Z = true) (wz : (Jvm.Cond.initialized C).before a0 Z = true) (hd : decode bytes pc = .ok (.new i, 3)) (hc : cells + 1 ≤ R.cells) (hl : slots + n ≤ R.slots)
    (k : ∀ T' h' a, h.size = a → n0 ≤ a → own_At w p l e R s m args below meth c bytes ret own nm mx Z n0 a0 EL (a :: sf) T' h' (cells + 1) (slots + n) → Ext h h' → Exa Z h' a C → (∀ {O nm d : String} {ty : FieldType}, Laid Z a0 C O nm d → parseFieldDescriptor d = some ty → Fld Z h' a O nm d (defaultValue ty)) → own_Run p e below Q m T' q Ls (.ref a :: st)) (hq : pc + 3 = q := by rfl) : own_Run p e below Q m T pc Ls st := by
  have g0 := A.fr
  obtain ⟨⟨hx, hby, r⟩, vm0, locs, X, B, hZ, hown, hT, N, Od, hEL, Ch, Sf⟩ := A
  subst hby hq
  obtain ⟨T', h', X', e', E, Ex, D, -, st'⟩ := newO X hx (s := s.setVm vm0) hZ hown w1 wi wz hT (g := mkF m pc Ls st) rfl hd hc hl
  exact own_by st' (k T' h' h.size rfl g0 ⟨⟨hx, rfl, r⟩, vm0, _, X', B.le E.1, hZ, hown, e', N, Od.ext E, hEL, Ch.trans (CHr.ext E Ch.1), Sf.new Ch.1 E Ex.lt⟩ E Ex D)
theorem own_newP (A : own_At w p l e R s m args below meth c bytes ret own nm mx Z n0 a0 EL sf T h cells slots) {aty : ArrayType} (w1 : (Jvm.Cond.arrayClass (newarray.typeOf aty)).before a0 Z = true) (hd : decode bytes pc = .ok (.newarray aty, 2)) {n : Int32} (cap : Nat) (hn : ¬ n < 0) (hcap : n.toNatClampNeg ≤ cap) (hb : cap * 8 ≤ 536870912) (hc : cells + 1 ≤ R.cells) (hl : slots + cap ≤ R.slots)
    (k : ∀ T' h' a cA, h.size = a → n0 ≤ a → own_At w p l e R s m args below meth c bytes ret own nm mx Z n0 a0 EL (a :: sf) T' h' (cells + 1) (slots + cap) → Ext h h' → Arr Z h' a (newA cA (newarray.typeOf aty) n) (newarray.typeOf aty) → own_Run p e below Q m T' q Ls (.ref a :: rest)) (hq : pc + 2 = q := by rfl) : own_Run p e below Q m T pc Ls (.int n :: rest) := by
  have g0 := A.fr
  obtain ⟨⟨hx, hby, r⟩, vm0, locs, X, B, hZ, hown, hT, N, Od, hEL, Ch, Sf⟩ := A
  subst hby hq
  obtain ⟨T', h', cA, X', e', E, Ar, st'⟩ := newP X hx (s := s.setVm vm0) hZ w1 hT (g := mkF m pc Ls (.int n :: rest)) rfl hd rfl hn hcap hb hc hl
  exact own_by st' (k T' h' h.size cA rfl g0 ⟨⟨hx, rfl, r⟩, vm0, _, X', B.le E.1, hZ, hown, e', N, Od.ext E, hEL, Ch.trans (CHr.ext E Ch.1), Sf.new Ch.1 E Ar.lt⟩ E Ar)
theorem own_newR (A : own_At w p l e R s m args below meth c bytes ret own nm mx Z n0 a0 EL sf T h cells slots) {i : Nat} {C : String} (w1 : (Jvm.Cond.classLink own i C).before a0 Z = true) (w2 : (Jvm.Cond.arrayOver (.object C)).before a0 Z = true) (hd : decode bytes pc = .ok (.anewarray i, 3)) {n : Int32} (cap : Nat) (hn : ¬ n < 0) (hcap : n.toNatClampNeg ≤ cap) (hb : cap * 8 ≤ 536870912) (hc : cells + 1 ≤ R.cells) (hl : slots + cap ≤ R.slots)
    (k : ∀ T' h' a cA, h.size = a → n0 ≤ a → own_At w p l e R s m args below meth c bytes ret own nm mx Z n0 a0 EL (a :: sf) T' h' (cells + 1) (slots + cap) → Ext h h' → Arr Z h' a (newA cA (.object C) n) (.object C) → Ovr Z cA C → own_Run p e below Q m T' q Ls (.ref a :: rest)) (hq : pc + 3 = q := by rfl) : own_Run p e below Q m T pc Ls (.int n :: rest) := by
  have g0 := A.fr
  obtain ⟨⟨hx, hby, r⟩, vm0, locs, X, B, hZ, hown, hT, N, Od, hEL, Ch, Sf⟩ := A
  subst hby hq
  obtain ⟨T', h', cA, X', e', E, Ar, Ov, st'⟩ := newR X hx (s := s.setVm vm0) hZ hown w1 w2 hT (g := mkF m pc Ls (.int n :: rest)) rfl hd rfl hn hcap hb hc hl
  exact own_by st' (k T' h' h.size cA rfl g0 ⟨⟨hx, rfl, r⟩, vm0, _, X', B.le E.1, hZ, hown, e', N, Od.ext E, hEL, Ch.trans (CHr.ext E Ch.1), Sf.new Ch.1 E Ar.lt⟩ E Ar Ov)
theorem own_initO (A : own_At w p l e R s m args below meth c bytes ret own nm mx Z n0 a0 EL sf T h cells slots) {i : Nat} {a : Addr} (w1 : (Jvm.Cond.methodLink own i Lib.objectInit).before a0 Z = true) (w2 : (Jvm.Cond.instanceMethod Lib.objectInit).before a0 Z = true) (w3 : (Jvm.Cond.code Lib.objectInit ⟨#[0xb1]⟩ 1 none).before a0 Z = true) (hd : decode bytes pc = .ok (.invokespecial i, 3)) (hsz : Ls.size = mx) {W : Nat} (hf : 1 ≤ R.frames) (hW : (rest.map fun v => v.category).sum ≤ W) (hl : W + 12 ≤ R.locals)
    (k : ∀ T', own_At w p l e R s m args below meth c bytes ret own nm mx Z n0 a0 EL sf T' h cells slots → own_Run p e below Q m T' q Ls rest) (hq : pc + 3 = q := by rfl) : own_Run p e below Q m T pc Ls (.ref a :: rest) := by
  obtain ⟨⟨hx, hby, r1, r2, r3, r4⟩, vm0, locs, X, B, hZ, hown, hT, N, Od, hEL, Ch, Sf⟩ := A
  subst hby hq
  obtain ⟨T', X', e', st'⟩ := initO X hx (s := s.setVm vm0) hZ hown w1 w2 w3 hT (g := mkF m pc Ls (.ref a :: rest)) rfl (hsz.trans r4.symm) rfl hd hf (W := W) (by show 2 * 0 + _ ≤ _; rw [Nat.mul_zero, Nat.zero_add]; exact hW) hl
  exact own_by st' (k T' ⟨⟨hx, rfl, r1, r2, r3, r4⟩, vm0, _, X', B, hZ, hown, e', N, Od, hEL, Ch, Sf⟩)
theorem own_stI (A : own_At w p l e R s m args below meth c bytes ret own nm mx Z n0 a0 EL sf T h cells slots) {a : Addr} {cl : Cell} {j x : Int32} (Ar : Arr Z h a cl .int) (hj : ¬ (j < 0 ∨ cl.slots.size ≤ j.toNatClampNeg)) (ha : n0 ≤ a) (hwo : own_Wok Z EL sf h a) (hd : decode bytes pc = .ok (.iastore, 1)) (k : ∀ T' h', own_At w p l e R s m args below meth c bytes ret own nm mx Z n0 a0 EL sf T' h' cells slots → Wr h h' a j.toNatClampNeg (.int x) → own_Run p e below Q m T' q Ls rest) (hq : pc + 1 = q := by rfl) : own_Run p e below Q m T pc Ls (.int x :: .int j :: .ref a :: rest) := by
  obtain ⟨⟨hx, hby, r⟩, vm0, locs, X, B, hZ, hown, hT, N, Od, hEL, Ch, Sf⟩ := A
  subst hby hq
  obtain ⟨T', h', X', e', W, st'⟩ := RoadKit.stI X hx (s := s.setVm vm0) hZ hT Ar hj (g := mkF m pc Ls (.int x :: .int j :: .ref a :: rest)) rfl rfl hd
  exact own_by st' (k T' h' ⟨⟨hx, rfl, r⟩, vm0, _, X', B.le (Nat.le_of_eq W.size.symm), hZ, hown, e', Fr.snoc X' N ha, Od.wr W ha, hEL, Ch.trans (CHr.wr W (hwo.safe hZ Sf) Ch.1), Sf.wr Ch.1 W (hwo.safe hZ Sf)⟩ W)
theorem own_stC (A : own_At w p l e R s m args below meth c bytes ret own nm mx Z n0 a0 EL sf T h cells slots) {a : Addr} {cl : Cell} {j x : Int32} (Ar : Arr Z h a cl .char) (hj : ¬ (j < 0 ∨ cl.slots.size ≤ j.toNatClampNeg)) (ha : n0 ≤ a) (hwo : own_Wok Z EL sf h a) (hd : decode bytes pc = .ok (.castore, 1)) (k : ∀ T' h', own_At w p l e R s m args below meth c bytes ret own nm mx Z n0 a0 EL sf T' h' cells slots → Wr h h' a j.toNatClampNeg (.int (nar .char x)) → own_Run p e below Q m T' q Ls rest) (hq : pc + 1 = q := by rfl) : own_Run p e below Q m T pc Ls (.int x :: .int j :: .ref a :: rest) := by
  obtain ⟨⟨hx, hby, r⟩, vm0, locs, X, B, hZ, hown, hT, N, Od, hEL, Ch, Sf⟩ := A
  subst hby hq
  obtain ⟨T', h', X', e', W, st'⟩ := RoadKit.stC X hx (s := s.setVm vm0) hZ hT Ar hj (g := mkF m pc Ls (.int x :: .int j :: .ref a :: rest)) rfl rfl hd
  exact own_by st' (k T' h' ⟨⟨hx, rfl, r⟩, vm0, _, X', B.le (Nat.le_of_eq W.size.symm), hZ, hown, e', Fr.snoc X' N ha, Od.wr W ha, hEL, Ch.trans (CHr.wr W (hwo.safe hZ Sf) Ch.1), Sf.wr Ch.1 W (hwo.safe hZ Sf)⟩ W)
theorem own_stB (A : own_At w p l e R s m args below meth c bytes ret own nm mx Z n0 a0 EL sf T h cells slots) {a : Addr} {cl : Cell} {j x : Int32} (Ar : Arr Z h a cl .byte) (hj : ¬ (j < 0 ∨ cl.slots.size ≤ j.toNatClampNeg)) (ha : n0 ≤ a) (hwo : own_Wok Z EL sf h a) (hd : decode bytes pc = .ok (.bastore, 1)) (k : ∀ T' h', own_At w p l e R s m args below meth c bytes ret own nm mx Z n0 a0 EL sf T' h' cells slots → Wr h h' a j.toNatClampNeg (.int (nar .byte x)) → own_Run p e below Q m T' q Ls rest) (hq : pc + 1 = q := by rfl) : own_Run p e below Q m T pc Ls (.int x :: .int j :: .ref a :: rest) := by
  obtain ⟨⟨hx, hby, r⟩, vm0, locs, X, B, hZ, hown, hT, N, Od, hEL, Ch, Sf⟩ := A
  subst hby hq
  obtain ⟨T', h', X', e', W, st'⟩ := RoadKit.stB X hx (s := s.setVm vm0) hZ hT Ar hj (g := mkF m pc Ls (.int x :: .int j :: .ref a :: rest)) rfl rfl hd
  exact own_by st' (k T' h' ⟨⟨hx, rfl, r⟩, vm0, _, X', B.le (Nat.le_of_eq W.size.symm), hZ, hown, e', Fr.snoc X' N ha, Od.wr W ha, hEL, Ch.trans (CHr.wr W (hwo.safe hZ Sf) Ch.1), Sf.wr Ch.1 W (hwo.safe hZ Sf)⟩ W)
theorem own_stR (A : own_At w p l e R s m args below meth c bytes ret own nm mx Z n0 a0 EL sf T h cells slots) {a : Addr} {cl : Cell} {ty : FieldType} {j : Int32} {v : Value} (Ar : Arr Z h a cl ty) (hj : ¬ (j < 0 ∨ cl.slots.size ≤ j.toNatClampNeg)) (hty : ty.isReference = true) (F : Sto Z h a v) (ha : n0 ≤ a) (hwo : own_Wok Z EL sf h a) (hd : decode bytes pc = .ok (.aastore, 1)) (k : ∀ T' h', own_At w p l e R s m args below meth c bytes ret own nm mx Z n0 a0 EL sf T' h' cells slots → Wr h h' a j.toNatClampNeg v → own_Run p e below Q m T' q Ls rest) (hq : pc + 1 = q := by rfl) : own_Run p e below Q m T pc Ls (v :: .int j :: .ref a :: rest) := by
  obtain ⟨⟨hx, hby, r⟩, vm0, locs, X, B, hZ, hown, hT, N, Od, hEL, Ch, Sf⟩ := A
  subst hby hq
  obtain ⟨T', h', X', e', W, st'⟩ := stR X hx (s := s.setVm vm0) hZ hT Ar hj hty F (g := mkF m pc Ls (v :: .int j :: .ref a :: rest)) rfl rfl hd
  exact own_by st' (k T' h' ⟨⟨hx, rfl, r⟩, vm0, _, X', B.le (Nat.le_of_eq W.size.symm), hZ, hown, e', Fr.snoc X' N ha, Od.wr W ha, hEL, Ch.trans (CHr.wr W (hwo.safe hZ Sf) Ch.1), Sf.wr Ch.1 W (hwo.safe hZ Sf)⟩ W)
theorem own_arrlen (A : own_At w p l e R s m args below meth c bytes ret own nm mx Z n0 a0 EL sf T h cells slots) {a : Addr} {cl : Cell} {ty : FieldType} (Ar : Arr Z h a cl ty) (hd : decode bytes pc = .ok (.arraylength, 1)) (k : own_Run p e below Q m T q Ls (.int cl.slots.size.toInt32 :: rest)) (hq : pc + 1 = q := by rfl) : own_Run p e below Q m T pc Ls (.ref a :: rest) := by
  obtain ⟨⟨hx, hby, r⟩, vm0, locs, X, B, hZ, hown, hT, N, Od, hEL, Ch, Sf⟩ := A
  subst hby hq hT
  exact own_by (fun t z => X.arraylength hx Ar.1 (State.isArrayOf_alike (T := s.setVm vm0) hZ.alike Ar.2.1) (g := mkF m pc Ls (.ref a :: rest)) rfl rfl hd t z) k
theorem own_aaload (A : own_At w p l e R s m args below meth c bytes ret own nm mx Z n0 a0 EL sf T h cells slots) {a : Addr} {cl : Cell} {ty : FieldType} {j : Int32} {v : Value} (Ar : Arr Z h a cl ty) (hty : ty.isReference = true) (hj : ¬ (j < 0 ∨ cl.slots.size ≤ j.toNatClampNeg)) (hv : cl.slots[j.toNatClampNeg]? = some v) (hd : decode bytes pc = .ok (.aaload, 1)) (k : own_Run p e below Q m T q Ls (v :: rest)) (hq : pc + 1 = q := by rfl) : own_Run p e below Q m T pc Ls (.int j :: .ref a :: rest) := by
  obtain ⟨⟨hx, hby, r⟩, vm0, locs, X, B, hZ, hown, hT, N, Od, hEL, Ch, Sf⟩ := A
  subst hby hq hT
  exact own_by (fun t z => X.aaload hx Ar.1 (State.isArrayOf_alike (T := s.setVm vm0) hZ.alike Ar.2.1) hty Ar.2.2 hj hv (g := mkF m pc Ls (.int j :: .ref a :: rest)) rfl rfl hd t z) k
theorem own_iaload (A : own_At w p l e R s m args below meth c bytes ret own nm mx Z n0 a0 EL sf T h cells slots) {a : Addr} {cl : Cell} {j : Int32} {v : Value} (Ar : Arr Z h a cl .int) (hj : ¬ (j < 0 ∨ cl.slots.size ≤ j.toNatClampNeg)) (hv : cl.slots[j.toNatClampNeg]? = some v) (hd : decode bytes pc = .ok (.iaload, 1)) (k : own_Run p e below Q m T q Ls (v :: rest)) (hq : pc + 1 = q := by rfl) : own_Run p e below Q m T pc Ls (.int j :: .ref a :: rest) := by
  obtain ⟨⟨hx, hby, r⟩, vm0, locs, X, B, hZ, hown, hT, N, Od, hEL, Ch, Sf⟩ := A
  subst hby hq hT
  exact own_by (fun t z => X.iaload hx Ar.1 (State.isArrayOf_alike (T := s.setVm vm0) hZ.alike Ar.2.1) Ar.2.2 hj hv (g := mkF m pc Ls (.int j :: .ref a :: rest)) rfl rfl hd t z) k
theorem own_caload (A : own_At w p l e R s m args below meth c bytes ret own nm mx Z n0 a0 EL sf T h cells slots) {a : Addr} {cl : Cell} {j : Int32} {v : Value} (Ar : Arr Z h a cl .char) (hj : ¬ (j < 0 ∨ cl.slots.size ≤ j.toNatClampNeg)) (hv : cl.slots[j.toNatClampNeg]? = some v) (hd : decode bytes pc = .ok (.caload, 1)) (k : own_Run p e below Q m T q Ls (v :: rest)) (hq : pc + 1 = q := by rfl) : own_Run p e below Q m T pc Ls (.int j :: .ref a :: rest) := by
  obtain ⟨⟨hx, hby, r⟩, vm0, locs, X, B, hZ, hown, hT, N, Od, hEL, Ch, Sf⟩ := A
  subst hby hq hT
  exact own_by (fun t z => X.caload hx Ar.1 (State.isArrayOf_alike (T := s.setVm vm0) hZ.alike Ar.2.1) Ar.2.2 hj hv (g := mkF m pc Ls (.int j :: .ref a :: rest)) rfl rfl hd t z) k
theorem own_baload (A : own_At w p l e R s m args below meth c bytes ret own nm mx Z n0 a0 EL sf T h cells slots) {a : Addr} {cl : Cell} {j : Int32} {v : Value} (Ar : Arr Z h a cl .byte) (hj : ¬ (j < 0 ∨ cl.slots.size ≤ j.toNatClampNeg)) (hv : cl.slots[j.toNatClampNeg]? = some v) (hd : decode bytes pc = .ok (.baload, 1)) (k : own_Run p e below Q m T q Ls (v :: rest)) (hq : pc + 1 = q := by rfl) : own_Run p e below Q m T pc Ls (.int j :: .ref a :: rest) := by
  obtain ⟨⟨hx, hby, r⟩, vm0, locs, X, B, hZ, hown, hT, N, Od, hEL, Ch, Sf⟩ := A
  subst hby hq hT
  exact own_by (fun t z => X.baloadBytes hx Ar.1 (State.isArrayOf_alike (T := s.setVm vm0) hZ.alike Ar.2.1) Ar.2.2 hj hv (g := mkF m pc Ls (.int j :: .ref a :: rest)) rfl rfl hd t z) k
/-- a callee that a library or own law pays, narrow (it interns nothing; ws: what it may write) -/
def own_Pays (l : Launch) (R : Room) (p : Program) (e : Env) (below : List Frame) (s : State) (args : Array Value) (Z : State) (n0 : Nat) (EL : List (String × Nat)) (ws : List Addr) (y : MethodName) (len W k n : Nat) (as' : Array Value) (h : Heap) (Qc : Option Value → Heap → Prop) : Prop :=
  ∀ vm0, Z.Warmed39 vm0 → Back l R p e below (s.setVm vm0) args y len W (fun A a => a = as' ∧ A.U.heap = h ∧ A.cells + k ≤ R.cells ∧ A.slots + n ≤ R.slots)
    (fun A _ v B => ∃ L, (Qc v B.U.heap ∧ Fr n0 L ∧ Old Z n0 B.U.heap ∧ h.size ≤ B.U.heap.size ∧ (EL = [] ∨ Keep h B.U.heap ws)) ∧ B.locs = A.locs ++ L ∧ B.cells = A.cells + k ∧ B.slots = A.slots + n)
theorem own_pay {y : MethodName} {bytes : ByteArray} {mx len W : Nat} {ret : Option FieldType} {rm : Room} {as' : Array Value} {Qc : Option Value → Heap → Prop} (M : own_Met false l Z n0 [] [] y bytes mx ret [] rm as' h Qc) (wc : (Jvm.Cond.code y bytes mx ret).before a0 Z = true) (wz : (Jvm.Cond.initialized y.cls).before a0 Z = true) (hf : rm.frames + 1 ≤ R.frames) (hl : W + (mx + 11) + rm.locals ≤ R.locals) :
    own_Pays l R p e below s args Z n0 [] [] y len W rm.cells rm.slots as' h Qc := fun vm0 hZ => by
  have M' : MetFree l y (head1 [Jvm.Cond.code y bytes mx ret] rm) (fun a U => a = as' ∧ Z.Warmed39 U.vm ∧ U.heap = h) (fun _ _ _ _ _ => True) (fun _ U o U' => ∃ v L, o = .returned v ∧ (fun v h' L => Qc v h' ∧ Fr n0 L ∧ Old Z n0 h' ∧ h.size ≤ h'.size ∧ (([] : List (String × Nat)) = [] ∨ Keep h h' [])) v U'.heap L ∧ FrameEnd U o U' L rm.cells rm.slots) :=
    MetFree.mono M (fun _ U z => ⟨z.1, z.2.1, z.2.2, (own_ch0 (vm := U.vm) (h := h) (Nat.le_refl _)).1, fun x hx => nomatch hx⟩) (fun _ _ _ _ _ z => z) (fun a U o U' hp ⟨v, L, h1, ⟨h2, h3, h4, h5⟩, _, h6⟩ => ⟨v, L, h1, ⟨h2, h3, h4, hp.2.2 ▸ h5, Or.inl rfl⟩, h6⟩)
  exact backOf (s := s.setVm vm0) (Q := fun v h' L => Qc v h' ∧ Fr n0 L ∧ Old Z n0 h' ∧ h.size ≤ h'.size ∧ (([] : List (String × Nat)) = [] ∨ Keep h h' [])) M' hZ wc wz hf hl
/-- a callee that may intern; sf': what it asks to be made and no literal's -/
def own_PaysW (l : Launch) (R : Room) (p : Program) (e : Env) (below : List Frame) (s : State) (args : Array Value) (Z : State) (n0 : Nat) (a0 : Array Value) (EL : List (String × Nat)) (ws : List Addr) (y : MethodName) (len W k n : Nat) (as' : Array Value) (h : Heap) (Qc : Option Value → Heap → Prop) : Prop :=
  ∀ vm0, EW Z a0 EL → Z.Warmed39 vm0 → CHv Z EL vm0 h → own_Sf Z EL vm0 h ws → BackS l R p e below (s.setVm vm0) args y len W (fun A a => a = as' ∧ A.U.heap = h ∧ A.cells + k ≤ R.cells ∧ A.slots + n ≤ R.slots)
    (fun A _ v B => ∃ L, (Qc v B.U.heap ∧ Fr n0 L ∧ Old Z n0 B.U.heap ∧ CHr Z EL vm0 h B.U.vm B.U.heap) ∧ B.locs = A.locs ++ L ∧ B.cells = A.cells + k ∧ B.slots = A.slots + n)
theorem own_payW {ws : List Addr} {y : MethodName} {bytes : ByteArray} {mx len W : Nat} {ret : Option FieldType} {rm : Room} {as' : Array Value} {Qc : Option Value → Heap → Prop} (M : own_Met true l Z n0 EL ws y bytes mx ret [] rm as' h Qc) (wc : (Jvm.Cond.code y bytes mx ret).before a0 Z = true) (wz : (Jvm.Cond.initialized y.cls).before a0 Z = true) (hf : rm.frames + 1 ≤ R.frames) (hl : W + (mx + 11) + rm.locals ≤ R.locals) :
    own_PaysW l R p e below s args Z n0 a0 EL ws y len W rm.cells rm.slots as' h Qc := fun vm0 hEL hZ H S => by
  refine BackS.of_freeW (bytes := bytes) (maxL := mx) (ret := ret) (E := fun _ first o t L k n => k = rm.cells ∧ n = rm.slots ∧ (∃ v, o = .returned v ∧ Qc v t.heap ∧ Fr n0 L ∧ Old Z n0 t.heap) ∧ CHr Z EL first.vm first.heap t.vm t.heap) M hf hl ?_ ?_ (fun _ _ _ _ _ _ _ _ _ => trivial) ?_ ?_
  · intro m meth c A a Y hp
    have hU : Z.Warmed39 A.U.vm := wtrans (s := s.setVm vm0) hZ Y.warmed
    exact ⟨by show (Cond.and _ .tt).before a A.U = true; rw [Cond.before_and, mv hU wc]; rfl, mv hU wc, mv hU wz, hp.2.2.1, hp.2.2.2⟩
  · intro m meth c A a g mk Y hp
    have C := CHv.at Y hZ hEL H
    exact ⟨hp.1, wtrans (s := s.setVm vm0) hZ Y.warmed, hp.2.1, C.1, fun x hx => ⟨C.safe (S x hx).2 (S x hx).1, (S x hx).2⟩⟩
  · rintro a first o t ⟨v, L, h1, ⟨h2, h3, h4, h5⟩, h6, h7⟩
    exact ⟨L, _, _, h7, rfl, rfl, ⟨v, h1, h2, h3, h4⟩, h6⟩
  · rintro m meth c A a g mk v t L k n Y hp - - ⟨e1, e2, ⟨v', e3, e4, e5, e6⟩, e7⟩
    cases e3
    subst e1 e2
    refine ⟨L, ⟨e4, e5, e6, (CHv.at Y hZ hEL H).trans ?_⟩, rfl, rfl, rfl⟩
    rw [← hp.2.1]
    exact e7
theorem own_static (A : own_At w p l e R s m args below meth c bytes ret own nm mx Z n0 a0 EL sf T h cells slots) {i mxy : Nat} {y : MethodName} {by' : ByteArray} {rt : Option FieldType} {k n W : Nat} {argsL : List Value} {Qc : Option Value → Heap → Prop} (w1 : (Jvm.Cond.methodLink own i y).before a0 Z = true) (w2 : (Jvm.Cond.static y).before a0 Z = true) (w3 : (Jvm.Cond.initialized y.cls).before a0 Z = true) (w4 : (Jvm.Cond.code y by' mxy rt).before a0 Z = true) (hy : y.cls ≠ "java/lang/invoke/MethodHandle" ∧ y.cls ≠ "java/lang/invoke/VarHandle") {ws : List Addr} (M : own_Pays l R p e below s args Z n0 EL ws y 3 W k n argsL.toArray h Qc) (hws : ∀ x ∈ ws, x ∈ sf) (hW : (rest.map fun v => v.category).sum ≤ W)  {sig : MethodDescriptor} (hds : parseMethodDescriptor y.desc = some sig) (hlen : argsL.length = sig.parameters.length) (hst : st = argsL.reverse ++ rest) (hsz : Ls.size = mx) (hd : decode bytes pc = .ok (.invokestatic i, 3)) (hc : cells + k ≤ R.cells) (hs : slots + n ≤ R.slots)
    (kk : ∀ v T' h', own_At w p l e R s m args below meth c bytes ret own nm mx Z n0 a0 EL sf T' h' (cells + k) (slots + n) → Qc v h' → own_Run p e below Q m T' q Ls (v.toList ++ rest)) (hq : pc + 3 = q := by rfl) : own_Run p e below Q m T pc Ls st := by
  obtain ⟨⟨hx, hby, r1, r2, r3, r4⟩, vm0, locs, X, B, hZ, hown, hT, N, Od, hEL, Ch, Sf⟩ := A
  subst hby hq hst hT
  obtain ⟨v, vm1, ⟨T', L', k', n'⟩, -, X', ⟨L, ⟨hQ, N', O', gr, hK⟩, l1, l2, l3⟩, st'⟩ := Jvm.LawKit.callS X hx hown (mvT (s := s.setVm vm0) hZ w1) (mvT (s := s.setVm vm0) hZ w2) (mvT (s := s.setVm vm0) hZ w3) (mvT (s := s.setVm vm0) hZ w4) hy (M vm0 hZ) (g := mkF m pc Ls (argsL.reverse ++ rest)) rfl (hsz.trans r4.symm)  (argsL := argsL) (rest := rest) (lenOf (ps := sig.parameters) (r := sig.returnType) hds hlen) rfl (by show 2 * 0 + _ ≤ _; rw [Nat.mul_zero, Nat.zero_add]; exact hW) hd (fun _ _ => ⟨rfl, rfl, hc, hs⟩)
  dsimp only [Pt.U, Pt.locs, Pt.cells, Pt.slots] at X' l1 l2 l3 st' hQ O' gr hK
  subst l1 l2 l3
  have C : CHr Z EL vm0 T.heap vm0 T'.heap := by
    rcases hK with rfl | hK
    · exact own_ch0 gr
    · exact CHr.keep hK (fun x hx => (Sf x (hws x hx)).1) Ch.1
  exact own_by (st') (kk v T' T'.heap ⟨⟨hx, rfl, r1, r2, r3, r4⟩, vm0, _, X', B.le gr, hZ, hown, rfl, N.app N', O', hEL, Ch.trans C, Sf.ch C⟩ hQ)
theorem own_staticW (A : own_At true p l e R s m args below meth c bytes ret own nm mx Z n0 a0 EL sf T h cells slots) {i mxy : Nat} {y : MethodName} {by' : ByteArray} {rt : Option FieldType} {k n W : Nat} {argsL : List Value} {Qc : Option Value → Heap → Prop} (w1 : (Jvm.Cond.methodLink own i y).before a0 Z = true) (w2 : (Jvm.Cond.static y).before a0 Z = true) (w3 : (Jvm.Cond.initialized y.cls).before a0 Z = true) (w4 : (Jvm.Cond.code y by' mxy rt).before a0 Z = true) (hy : y.cls ≠ "java/lang/invoke/MethodHandle" ∧ y.cls ≠ "java/lang/invoke/VarHandle") {ws : List Addr} (M : own_PaysW l R p e below s args Z n0 a0 EL ws y 3 W k n argsL.toArray h Qc) (hws : ∀ x ∈ ws, x ∈ sf) (hW : (rest.map fun v => v.category).sum ≤ W)  {sig : MethodDescriptor} (hds : parseMethodDescriptor y.desc = some sig) (hlen : argsL.length = sig.parameters.length) (hst : st = argsL.reverse ++ rest) (hsz : Ls.size = mx) (hd : decode bytes pc = .ok (.invokestatic i, 3)) (hc : cells + k ≤ R.cells) (hs : slots + n ≤ R.slots)
    (kk : ∀ v T' h', own_At true p l e R s m args below meth c bytes ret own nm mx Z n0 a0 EL sf T' h' (cells + k) (slots + n) → Qc v h' → own_Run p e below Q m T' q Ls (v.toList ++ rest)) (hq : pc + 3 = q := by rfl) : own_Run p e below Q m T pc Ls st := by
  obtain ⟨⟨hx, hby, r1, r2, r3, r4⟩, vm0, locs, X, B, hZ, hown, hT, N, Od, hEL, Ch, Sf⟩ := A
  subst hby hq hst hT
  obtain ⟨v, vm1, ⟨T', L', k', n'⟩, -, X', hS, gr, ⟨L, ⟨hQ, N', O', C⟩, l1, l2, l3⟩, st'⟩ := callSS X hx hown (mvT (s := s.setVm vm0) hZ w1) (mvT (s := s.setVm vm0) hZ w2) (mvT (s := s.setVm vm0) hZ w3) (mvT (s := s.setVm vm0) hZ w4) hy (M vm0 hEL hZ Ch.1 (fun x hx => Sf x (hws x hx))) (g := mkF m pc Ls (argsL.reverse ++ rest)) rfl (hsz.trans r4.symm)  (argsL := argsL) (rest := rest) (lenOf (ps := sig.parameters) (r := sig.returnType) hds hlen) rfl (by show 2 * 0 + _ ≤ _; rw [Nat.mul_zero, Nat.zero_add]; exact hW) hd (fun _ _ => ⟨rfl, rfl, hc, hs⟩)
  dsimp only [Pt.U, Pt.locs, Pt.cells, Pt.slots] at X' l1 l2 l3 st' hQ O' hS gr C
  subst l1 l2 l3
  have hZ' : Z.Warmed39 T'.vm := State.Warmed39.trans (t := s.setVm vm0) hZ hS.1
  have hown' : T'.vm.findClass own = some m.cls := by rw [hS.1.alike.findClass]; exact hown
  obtain ⟨k0, B1, B2⟩ : ∃ k0, s.Since vm0 k0 ∧ k0 ≤ T.heap.size := by
    rcases B with ⟨B, -⟩ | ⟨-, B⟩
    · cases B
    · exact B
  exact own_by (fun _ z => st'.trans z) (kk v T' T'.heap ⟨⟨hx, rfl, r1, r2, r3, r4⟩, T'.vm, _, X', Or.inr ⟨rfl, _, B1.trans hS (Nat.le_trans B2 gr), Nat.le_refl _⟩, hZ', hown', rfl, N.app N', O', hEL, Ch.trans C, Sf.ch C⟩ hQ)
theorem own_special (A : own_At w p l e R s m args below meth c bytes ret own nm mx Z n0 a0 EL sf T h cells slots) {i mxy : Nat} {y : MethodName} {by' : ByteArray} {a : Addr} {k n W : Nat} {argsL : List Value} {Qc : Option Value → Heap → Prop} (hy1 : y.name = "<init>") (w1 : (Jvm.Cond.methodLink own i y).before a0 Z = true) (w2 : (Jvm.Cond.instanceMethod y).before a0 Z = true) (w3 : (Jvm.Cond.code y by' mxy none).before a0 Z = true) (hy : y.cls ≠ "java/lang/invoke/MethodHandle" ∧ y.cls ≠ "java/lang/invoke/VarHandle") {ws : List Addr} (M : own_Pays l R p e below s args Z n0 EL ws y 3 W k n (.ref a :: argsL).toArray h Qc) (hws : ∀ x ∈ ws, x ∈ sf) (hW : (rest.map fun v => v.category).sum ≤ W)  {sig : MethodDescriptor} (hds : parseMethodDescriptor y.desc = some sig) (hlen : argsL.length = sig.parameters.length) (hst : st = argsL.reverse ++ .ref a :: rest) (hsz : Ls.size = mx) (hd : decode bytes pc = .ok (.invokespecial i, 3)) (hc : cells + k ≤ R.cells) (hs : slots + n ≤ R.slots)
    (kk : ∀ v T' h', own_At w p l e R s m args below meth c bytes ret own nm mx Z n0 a0 EL sf T' h' (cells + k) (slots + n) → Qc v h' → own_Run p e below Q m T' q Ls (v.toList ++ rest)) (hq : pc + 3 = q := by rfl) : own_Run p e below Q m T pc Ls st := by
  obtain ⟨⟨hx, hby, r1, r2, r3, r4⟩, vm0, locs, X, B, hZ, hown, hT, N, Od, hEL, Ch, Sf⟩ := A
  subst hby hq hst hT
  obtain ⟨v, vm1, ⟨T', L', k', n'⟩, -, X', ⟨L, ⟨hQ, N', O', gr, hK⟩, l1, l2, l3⟩, st'⟩ := X.specialBack hx hy1 hown (mvT (s := s.setVm vm0) hZ w1) (mvT (s := s.setVm vm0) hZ w2) (mvT (s := s.setVm vm0) hZ w3) hy (M vm0 hZ) (g := mkF m pc Ls (argsL.reverse ++ .ref a :: rest)) rfl (hsz.trans r4.symm) (Steps.refl _) (a := a) (argsL := argsL) (rest := rest) (lenOf (ps := sig.parameters) (r := sig.returnType) hds hlen) rfl (by show 2 * 0 + _ ≤ _; rw [Nat.mul_zero, Nat.zero_add]; exact hW) hd (fun _ _ => ⟨rfl, rfl, hc, hs⟩)
  dsimp only [Pt.U, Pt.locs, Pt.cells, Pt.slots] at X' l1 l2 l3 st' hQ O' gr hK
  subst l1 l2 l3
  have C : CHr Z EL vm0 T.heap vm0 T'.heap := by
    rcases hK with rfl | hK
    · exact own_ch0 gr
    · exact CHr.keep hK (fun x hx => (Sf x (hws x hx)).1) Ch.1
  exact own_by (fun _ z => st'.trans z) (kk v T' T'.heap ⟨⟨hx, rfl, r1, r2, r3, r4⟩, vm0, _, X', B.le gr, hZ, hown, rfl, N.app N', O', hEL, Ch.trans C, Sf.ch C⟩ hQ)
theorem own_specialW (A : own_At true p l e R s m args below meth c bytes ret own nm mx Z n0 a0 EL sf T h cells slots) {i mxy : Nat} {y : MethodName} {by' : ByteArray} {a : Addr} {k n W : Nat} {argsL : List Value} {Qc : Option Value → Heap → Prop} (hy1 : y.name = "<init>") (w1 : (Jvm.Cond.methodLink own i y).before a0 Z = true) (w2 : (Jvm.Cond.instanceMethod y).before a0 Z = true) (w3 : (Jvm.Cond.code y by' mxy none).before a0 Z = true) (hy : y.cls ≠ "java/lang/invoke/MethodHandle" ∧ y.cls ≠ "java/lang/invoke/VarHandle") {ws : List Addr} (M : own_PaysW l R p e below s args Z n0 a0 EL ws y 3 W k n (.ref a :: argsL).toArray h Qc) (hws : ∀ x ∈ ws, x ∈ sf) (hW : (rest.map fun v => v.category).sum ≤ W)  {sig : MethodDescriptor} (hds : parseMethodDescriptor y.desc = some sig) (hlen : argsL.length = sig.parameters.length) (hst : st = argsL.reverse ++ .ref a :: rest) (hsz : Ls.size = mx) (hd : decode bytes pc = .ok (.invokespecial i, 3)) (hc : cells + k ≤ R.cells) (hs : slots + n ≤ R.slots)
    (kk : ∀ v T' h', own_At true p l e R s m args below meth c bytes ret own nm mx Z n0 a0 EL sf T' h' (cells + k) (slots + n) → Qc v h' → own_Run p e below Q m T' q Ls (v.toList ++ rest)) (hq : pc + 3 = q := by rfl) : own_Run p e below Q m T pc Ls st := by
  obtain ⟨⟨hx, hby, r1, r2, r3, r4⟩, vm0, locs, X, B, hZ, hown, hT, N, Od, hEL, Ch, Sf⟩ := A
  subst hby hq hst hT
  obtain ⟨v, vm1, ⟨T', L', k', n'⟩, -, X', hS, gr, ⟨L, ⟨hQ, N', O', C⟩, l1, l2, l3⟩, st'⟩ := X.specialBackS hx hy1 hown (mvT (s := s.setVm vm0) hZ w1) (mvT (s := s.setVm vm0) hZ w2) (mvT (s := s.setVm vm0) hZ w3) hy (M vm0 hEL hZ Ch.1 (fun x hx => Sf x (hws x hx))) (g := mkF m pc Ls (argsL.reverse ++ .ref a :: rest)) rfl (hsz.trans r4.symm) (Steps.refl _) (a := a) (argsL := argsL) (rest := rest) (lenOf (ps := sig.parameters) (r := sig.returnType) hds hlen) rfl (by show 2 * 0 + _ ≤ _; rw [Nat.mul_zero, Nat.zero_add]; exact hW) hd (fun _ _ => ⟨rfl, rfl, hc, hs⟩)
  dsimp only [Pt.U, Pt.locs, Pt.cells, Pt.slots] at X' l1 l2 l3 st' hQ O' hS gr C
  subst l1 l2 l3
  have hZ' : Z.Warmed39 T'.vm := State.Warmed39.trans (t := s.setVm vm0) hZ hS.1
  have hown' : T'.vm.findClass own = some m.cls := by rw [hS.1.alike.findClass]; exact hown
  obtain ⟨k0, B1, B2⟩ : ∃ k0, s.Since vm0 k0 ∧ k0 ≤ T.heap.size := by
    rcases B with ⟨B, -⟩ | ⟨-, B⟩
    · cases B
    · exact B
  exact own_by (fun _ z => st'.trans z) (kk v T' T'.heap ⟨⟨hx, rfl, r1, r2, r3, r4⟩, T'.vm, _, X', Or.inr ⟨rfl, _, B1.trans hS (Nat.le_trans B2 gr), Nat.le_refl _⟩, hZ', hown', rfl, N.app N', O', hEL, Ch.trans C, Sf.ch C⟩ hQ)
theorem own_virtual (A : own_At w p l e R s m args below meth c bytes ret own nm mx Z n0 a0 EL sf T h cells slots) {i : Nat} {y : MethodName} {C : String} {a : Addr} {k n W : Nat} {argsL : List Value} {Qc : Option Value → Heap → Prop} (w1 : (Jvm.Cond.methodLink own i y).before a0 Z = true) (w2 : (Jvm.Cond.declares y).before a0 Z = true) (w3 : (Jvm.Cond.selects C y y).before a0 Z = true) (w4 : (Jvm.Cond.instanceMethod y).before a0 Z = true) (hy : y.cls ≠ "java/lang/invoke/MethodHandle" ∧ y.cls ≠ "java/lang/invoke/VarHandle") {ws : List Addr} (M : own_Pays l R p e below s args Z n0 EL ws y 3 W k n (.ref a :: argsL).toArray h Qc) (hws : ∀ x ∈ ws, x ∈ sf) (hW : (rest.map fun v => v.category).sum ≤ W) (E : Exa Z h a C) {sig : MethodDescriptor} (hds : parseMethodDescriptor y.desc = some sig) (hlen : argsL.length = sig.parameters.length) (hst : st = argsL.reverse ++ .ref a :: rest) (hsz : Ls.size = mx) (hd : decode bytes pc = .ok (.invokevirtual i, 3)) (hc : cells + k ≤ R.cells) (hs : slots + n ≤ R.slots)
    (kk : ∀ v T' h', own_At w p l e R s m args below meth c bytes ret own nm mx Z n0 a0 EL sf T' h' (cells + k) (slots + n) → Qc v h' → own_Run p e below Q m T' q Ls (v.toList ++ rest)) (hq : pc + 3 = q := by rfl) : own_Run p e below Q m T pc Ls st := by
  obtain ⟨⟨hx, hby, r1, r2, r3, r4⟩, vm0, locs, X, B, hZ, hown, hT, N, Od, hEL, Ch, Sf⟩ := A
  subst hby hq hst hT
  obtain ⟨cq, kq, qa, qb, qc⟩ := isOf (s := s.setVm vm0) (T := T) hZ rfl E
  obtain ⟨v, vm1, ⟨T', L', k', n'⟩, -, X', ⟨L, ⟨hQ, N', O', gr, hK⟩, l1, l2, l3⟩, st'⟩ := X.virtualBack hx hown (mvT (s := s.setVm vm0) hZ w1) (mvT (s := s.setVm vm0) hZ w2) (notFace_of_selects (args := #[]) (mvT (s := s.setVm vm0) hZ w3)) (mvT (s := s.setVm vm0) hZ w3) (mvT (s := s.setVm vm0) hZ w4) hy (M vm0 hZ) qa qc (g := mkF m pc Ls (argsL.reverse ++ .ref a :: rest)) rfl (hsz.trans r4.symm) (Steps.refl _) (argsL := argsL) (rest := rest) (lenOf (ps := sig.parameters) (r := sig.returnType) hds hlen) rfl (by show 2 * 0 + _ ≤ _; rw [Nat.mul_zero, Nat.zero_add]; exact hW) hd (fun _ _ => ⟨rfl, rfl, hc, hs⟩)
  dsimp only [Pt.U, Pt.locs, Pt.cells, Pt.slots] at X' l1 l2 l3 st' hQ O' gr hK
  subst l1 l2 l3
  have C : CHr Z EL vm0 T.heap vm0 T'.heap := by
    rcases hK with rfl | hK
    · exact own_ch0 gr
    · exact CHr.keep hK (fun x hx => (Sf x (hws x hx)).1) Ch.1
  exact own_by (fun _ z => st'.trans z) (kk v T' T'.heap ⟨⟨hx, rfl, r1, r2, r3, r4⟩, vm0, _, X', B.le gr, hZ, hown, rfl, N.app N', O', hEL, Ch.trans C, Sf.ch C⟩ hQ)
theorem own_virtualW (A : own_At true p l e R s m args below meth c bytes ret own nm mx Z n0 a0 EL sf T h cells slots) {i : Nat} {y : MethodName} {C : String} {a : Addr} {k n W : Nat} {argsL : List Value} {Qc : Option Value → Heap → Prop} (w1 : (Jvm.Cond.methodLink own i y).before a0 Z = true) (w2 : (Jvm.Cond.declares y).before a0 Z = true) (w3 : (Jvm.Cond.selects C y y).before a0 Z = true) (w4 : (Jvm.Cond.instanceMethod y).before a0 Z = true) (hy : y.cls ≠ "java/lang/invoke/MethodHandle" ∧ y.cls ≠ "java/lang/invoke/VarHandle") {ws : List Addr} (M : own_PaysW l R p e below s args Z n0 a0 EL ws y 3 W k n (.ref a :: argsL).toArray h Qc) (hws : ∀ x ∈ ws, x ∈ sf) (hW : (rest.map fun v => v.category).sum ≤ W) (E : Exa Z h a C) {sig : MethodDescriptor} (hds : parseMethodDescriptor y.desc = some sig) (hlen : argsL.length = sig.parameters.length) (hst : st = argsL.reverse ++ .ref a :: rest) (hsz : Ls.size = mx) (hd : decode bytes pc = .ok (.invokevirtual i, 3)) (hc : cells + k ≤ R.cells) (hs : slots + n ≤ R.slots)
    (kk : ∀ v T' h', own_At true p l e R s m args below meth c bytes ret own nm mx Z n0 a0 EL sf T' h' (cells + k) (slots + n) → Qc v h' → own_Run p e below Q m T' q Ls (v.toList ++ rest)) (hq : pc + 3 = q := by rfl) : own_Run p e below Q m T pc Ls st := by
  obtain ⟨⟨hx, hby, r1, r2, r3, r4⟩, vm0, locs, X, B, hZ, hown, hT, N, Od, hEL, Ch, Sf⟩ := A
  subst hby hq hst hT
  obtain ⟨cq, kq, qa, qb, qc⟩ := isOf (s := s.setVm vm0) (T := T) hZ rfl E
  obtain ⟨v, vm1, ⟨T', L', k', n'⟩, -, X', hS, gr, ⟨L, ⟨hQ, N', O', C⟩, l1, l2, l3⟩, st'⟩ := X.virtualBackS hx hown (mvT (s := s.setVm vm0) hZ w1) (mvT (s := s.setVm vm0) hZ w2) (notFace_of_selects (args := #[]) (mvT (s := s.setVm vm0) hZ w3)) (mvT (s := s.setVm vm0) hZ w3) (mvT (s := s.setVm vm0) hZ w4) hy (M vm0 hEL hZ Ch.1 (fun x hx => Sf x (hws x hx))) qa qc (g := mkF m pc Ls (argsL.reverse ++ .ref a :: rest)) rfl (hsz.trans r4.symm) (Steps.refl _) (argsL := argsL) (rest := rest) (lenOf (ps := sig.parameters) (r := sig.returnType) hds hlen) rfl (by show 2 * 0 + _ ≤ _; rw [Nat.mul_zero, Nat.zero_add]; exact hW) hd (fun _ _ => ⟨rfl, rfl, hc, hs⟩)
  dsimp only [Pt.U, Pt.locs, Pt.cells, Pt.slots] at X' l1 l2 l3 st' hQ O' hS gr C
  subst l1 l2 l3
  have hZ' : Z.Warmed39 T'.vm := State.Warmed39.trans (t := s.setVm vm0) hZ hS.1
  have hown' : T'.vm.findClass own = some m.cls := by rw [hS.1.alike.findClass]; exact hown
  obtain ⟨k0, B1, B2⟩ : ∃ k0, s.Since vm0 k0 ∧ k0 ≤ T.heap.size := by
    rcases B with ⟨B, -⟩ | ⟨-, B⟩
    · cases B
    · exact B
  exact own_by (fun _ z => st'.trans z) (kk v T' T'.heap ⟨⟨hx, rfl, r1, r2, r3, r4⟩, T'.vm, _, X', Or.inr ⟨rfl, _, B1.trans hS (Nat.le_trans B2 gr), Nat.le_refl _⟩, hZ', hown', rfl, N.app N', O', hEL, Ch.trans C, Sf.ch C⟩ hQ)
theorem own_virtualUp (A : own_At w p l e R s m args below meth c bytes ret own nm mx Z n0 a0 EL sf T h cells slots) {i : Nat} {x y : MethodName} {C owner : String} {a : Addr} {k n W : Nat} {argsL : List Value} {Qc : Option Value → Heap → Prop} (w1 : (Jvm.Cond.methodLink own i x).before a0 Z = true) (w2 : (Jvm.Cond.sameMethod x.cls owner x.name x.desc).before a0 Z = true) (w3 : (Jvm.Cond.declares ⟨owner, x.name, x.desc⟩).before a0 Z = true) (hy : owner ≠ "java/lang/invoke/MethodHandle" ∧ owner ≠ "java/lang/invoke/VarHandle") (w4 : (Jvm.Cond.selects C x y).before a0 Z = true) (w5 : (Jvm.Cond.instanceMethod y).before a0 Z = true) {ws : List Addr} (M : own_Pays l R p e below s args Z n0 EL ws y 3 W k n (.ref a :: argsL).toArray h Qc) (hws : ∀ x ∈ ws, x ∈ sf) (hW : (rest.map fun v => v.category).sum ≤ W) (E : Exa Z h a C) {sig : MethodDescriptor} (hds : parseMethodDescriptor x.desc = some sig) (hlen : argsL.length = sig.parameters.length) (hst : st = argsL.reverse ++ .ref a :: rest) (hsz : Ls.size = mx) (hd : decode bytes pc = .ok (.invokevirtual i, 3)) (hc : cells + k ≤ R.cells) (hs : slots + n ≤ R.slots)
    (kk : ∀ v T' h', own_At w p l e R s m args below meth c bytes ret own nm mx Z n0 a0 EL sf T' h' (cells + k) (slots + n) → Qc v h' → own_Run p e below Q m T' q Ls (v.toList ++ rest)) (hq : pc + 3 = q := by rfl) : own_Run p e below Q m T pc Ls st := by
  obtain ⟨⟨hx, hby, r1, r2, r3, r4⟩, vm0, locs, X, B, hZ, hown, hT, N, Od, hEL, Ch, Sf⟩ := A
  subst hby hq hst hT
  obtain ⟨cq, kq, qa, qb, qc⟩ := isOf (s := s.setVm vm0) (T := T) hZ rfl E
  obtain ⟨v, vm1, ⟨T', L', k', n'⟩, -, X', ⟨L, ⟨hQ, N', O', gr, hK⟩, l1, l2, l3⟩, st'⟩ := X.virtualBackUp hx hown (mvT (s := s.setVm vm0) hZ w1) (mvT (s := s.setVm vm0) hZ w2) (mvT (s := s.setVm vm0) hZ w3) hy (mvT (s := s.setVm vm0) hZ w4) (mvT (s := s.setVm vm0) hZ w5) (M vm0 hZ) qa qc (g := mkF m pc Ls (argsL.reverse ++ .ref a :: rest)) rfl (hsz.trans r4.symm) (Steps.refl _) (argsL := argsL) (rest := rest) (lenOf (ps := sig.parameters) (r := sig.returnType) hds hlen) rfl (by show 2 * 0 + _ ≤ _; rw [Nat.mul_zero, Nat.zero_add]; exact hW) hd (fun _ _ => ⟨rfl, rfl, hc, hs⟩)
  dsimp only [Pt.U, Pt.locs, Pt.cells, Pt.slots] at X' l1 l2 l3 st' hQ O' gr hK
  subst l1 l2 l3
  have C : CHr Z EL vm0 T.heap vm0 T'.heap := by
    rcases hK with rfl | hK
    · exact own_ch0 gr
    · exact CHr.keep hK (fun x hx => (Sf x (hws x hx)).1) Ch.1
  exact own_by (fun _ z => st'.trans z) (kk v T' T'.heap ⟨⟨hx, rfl, r1, r2, r3, r4⟩, vm0, _, X', B.le gr, hZ, hown, rfl, N.app N', O', hEL, Ch.trans C, Sf.ch C⟩ hQ)
theorem own_virtualUpW (A : own_At true p l e R s m args below meth c bytes ret own nm mx Z n0 a0 EL sf T h cells slots) {i : Nat} {x y : MethodName} {C owner : String} {a : Addr} {k n W : Nat} {argsL : List Value} {Qc : Option Value → Heap → Prop} (w1 : (Jvm.Cond.methodLink own i x).before a0 Z = true) (w2 : (Jvm.Cond.sameMethod x.cls owner x.name x.desc).before a0 Z = true) (w3 : (Jvm.Cond.declares ⟨owner, x.name, x.desc⟩).before a0 Z = true) (hy : owner ≠ "java/lang/invoke/MethodHandle" ∧ owner ≠ "java/lang/invoke/VarHandle") (w4 : (Jvm.Cond.selects C x y).before a0 Z = true) (w5 : (Jvm.Cond.instanceMethod y).before a0 Z = true) {ws : List Addr} (M : own_PaysW l R p e below s args Z n0 a0 EL ws y 3 W k n (.ref a :: argsL).toArray h Qc) (hws : ∀ x ∈ ws, x ∈ sf) (hW : (rest.map fun v => v.category).sum ≤ W) (E : Exa Z h a C) {sig : MethodDescriptor} (hds : parseMethodDescriptor x.desc = some sig) (hlen : argsL.length = sig.parameters.length) (hst : st = argsL.reverse ++ .ref a :: rest) (hsz : Ls.size = mx) (hd : decode bytes pc = .ok (.invokevirtual i, 3)) (hc : cells + k ≤ R.cells) (hs : slots + n ≤ R.slots)
    (kk : ∀ v T' h', own_At true p l e R s m args below meth c bytes ret own nm mx Z n0 a0 EL sf T' h' (cells + k) (slots + n) → Qc v h' → own_Run p e below Q m T' q Ls (v.toList ++ rest)) (hq : pc + 3 = q := by rfl) : own_Run p e below Q m T pc Ls st := by
  obtain ⟨⟨hx, hby, r1, r2, r3, r4⟩, vm0, locs, X, B, hZ, hown, hT, N, Od, hEL, Ch, Sf⟩ := A
  subst hby hq hst hT
  obtain ⟨cq, kq, qa, qb, qc⟩ := isOf (s := s.setVm vm0) (T := T) hZ rfl E
  obtain ⟨v, vm1, ⟨T', L', k', n'⟩, -, X', hS, gr, ⟨L, ⟨hQ, N', O', C⟩, l1, l2, l3⟩, st'⟩ := X.virtualBackUpS hx hown (mvT (s := s.setVm vm0) hZ w1) (mvT (s := s.setVm vm0) hZ w2) (mvT (s := s.setVm vm0) hZ w3) hy (mvT (s := s.setVm vm0) hZ w4) (mvT (s := s.setVm vm0) hZ w5) (M vm0 hEL hZ Ch.1 (fun x hx => Sf x (hws x hx))) qa qc (g := mkF m pc Ls (argsL.reverse ++ .ref a :: rest)) rfl (hsz.trans r4.symm) (Steps.refl _) (argsL := argsL) (rest := rest) (lenOf (ps := sig.parameters) (r := sig.returnType) hds hlen) rfl (by show 2 * 0 + _ ≤ _; rw [Nat.mul_zero, Nat.zero_add]; exact hW) hd (fun _ _ => ⟨rfl, rfl, hc, hs⟩)
  dsimp only [Pt.U, Pt.locs, Pt.cells, Pt.slots] at X' l1 l2 l3 st' hQ O' hS gr C
  subst l1 l2 l3
  have hZ' : Z.Warmed39 T'.vm := State.Warmed39.trans (t := s.setVm vm0) hZ hS.1
  have hown' : T'.vm.findClass own = some m.cls := by rw [hS.1.alike.findClass]; exact hown
  obtain ⟨k0, B1, B2⟩ : ∃ k0, s.Since vm0 k0 ∧ k0 ≤ T.heap.size := by
    rcases B with ⟨B, -⟩ | ⟨-, B⟩
    · cases B
    · exact B
  exact own_by (fun _ z => st'.trans z) (kk v T' T'.heap ⟨⟨hx, rfl, r1, r2, r3, r4⟩, T'.vm, _, X', Or.inr ⟨rfl, _, B1.trans hS (Nat.le_trans B2 gr), Nat.le_refl _⟩, hZ', hown', rfl, N.app N', O', hEL, Ch.trans C, Sf.ch C⟩ hQ)
/-- ldc of a String constant, opaque -/
theorem own_ldcO (A : own_At true p l e R s m args below meth c bytes ret own nm mx Z n0 a0 EL sf T h cells slots) {i n : Nat} {text : String} (wl : (Jvm.Cond.stringLink own i text).before a0 Z = true) (wS : ∀ a ∈ Bundle.stringAtoms, a.before a0 Z = true) (hd : decode bytes pc = .ok (.ldc i, 2)) (hn : 4 * text.toList.length ≤ n) (hbig : n ≤ 536870912) (hc : cells + 2 ≤ R.cells) (hl : slots + (n + 4) ≤ R.slots)
    (k : ∀ a T' h', own_At true p l e R s m args below meth c bytes ret own nm mx Z n0 a0 EL sf T' h' (cells + 2) (slots + (n + 4)) → Ext h h' → own_Run p e below Q m T' q Ls (.ref a :: st)) (hq : pc + 2 = q := by rfl) : own_Run p e below Q m T pc Ls st := by
  obtain ⟨⟨hx, hby, r⟩, vm0, locs, X, B, hZ, hown, hT, N, Od, hEL, Ch, Sf⟩ := A
  subst hby hq
  obtain ⟨k0, B1, B2⟩ : ∃ k0, s.Since vm0 k0 ∧ k0 ≤ h.size := by
    rcases B with ⟨B, -⟩ | ⟨-, B⟩
    · cases B
    · exact B
  obtain ⟨a, T', h', k1, X', e', E, hS, hk, hZ', hown', C, -, st'⟩ := ldcOH X hx hZ hown wl wS hT B1 B2 hEL Ch.1 (g := mkF m pc Ls st) rfl hd hn hbig hc hl
  exact own_by st' (k a T' h' ⟨⟨hx, rfl, r⟩, T'.vm, _, X', Or.inr ⟨rfl, k1, hS, hk⟩, hZ', hown', e', N, Od.ext E, hEL, Ch.trans C, Sf.ch C⟩ E)
/-- ldc of a String constant that is said to be held, read -/
theorem own_ldcR (A : own_At true p l e R s m args below meth c bytes ret own nm mx Z n0 a0 EL sf T h cells slots) {i n : Nat} {text : String} (wl : (Jvm.Cond.stringLink own i text).before a0 Z = true) (wS : ∀ a ∈ Bundle.stringAtoms, a.before a0 Z = true) (hmem : (own, i) ∈ EL) {vs : List Value} {z : Int32} (ht : (∀ c ∈ text.toList, c.toNat < 256) ∧ text.toList.map (fun c => Value.int (Jvm.Lit.byteI c.toNat.toUInt16)) = vs) (hz : ¬ z < 0) (hlz : z.toNatClampNeg = vs.length) (hd : decode bytes pc = .ok (.ldc i, 2)) (hn : 4 * text.toList.length ≤ n) (hbig : n ≤ 536870912) (hc : cells + 2 ≤ R.cells) (hl : slots + (n + 4) ≤ R.slots)
    (k : ∀ a b cb T' h', own_At true p l e R s m args below meth c bytes ret own nm mx Z n0 a0 EL sf T' h' (cells + 2) (slots + (n + 4)) → Ext h h' → Exa Z h' a "java/lang/String" → Fld Z h' a "java/lang/String" "coder" "B" (.int 0) → Fld Z h' a "java/lang/String" "value" "[B" (.ref b) → Arv Z h' b cb .byte z vs (.int 0) → (∀ x ∈ sf, x ≠ a ∧ x ≠ b) → own_Run p e below Q m T' q Ls (.ref a :: st)) (hq : pc + 2 = q := by rfl) : own_Run p e below Q m T pc Ls st := by
  obtain ⟨⟨hx, hby, r⟩, vm0, locs, X, B, hZ, hown, hT, N, Od, hEL, Ch, Sf⟩ := A
  subst hby hq
  obtain ⟨k0, B1, B2⟩ : ∃ k0, s.Since vm0 k0 ∧ k0 ≤ h.size := by
    rcases B with ⟨B, -⟩ | ⟨-, B⟩
    · cases B
    · exact B
  obtain ⟨a, T', h', k1, b, cb, X', e', E, hS, hk, hZ', hown', f1, f2, f3, f4, -, -, C, -, f5, st'⟩ := ldcCH X hx hZ hown wl wS hT B1 B2 hEL hmem Ch.1 ht hz hlz (g := mkF m pc Ls st) rfl hd hn hbig hc hl
  exact own_by st' (k a b cb T' h' ⟨⟨hx, rfl, r⟩, T'.vm, _, X', Or.inr ⟨rfl, k1, hS, hk⟩, hZ', hown', e', N, Od.ext E, hEL, Ch.trans C, Sf.ch C⟩ E f1 f2 f3 f4 (fun x hx => f5 x (Sf.ch C x hx).1))
end Own
section OwnArr
variable {w : Bool} {p : Program} {l : Launch} {e : Env} {R : Room} {s : State} {m : MethodId} {args : Array Value} {below : List Frame} {meth : Method} {c : Code} {T : State} {cells slots n0 mx : Nat} {Z : State} {a0 : Array Value} {h : Heap} {bytes : ByteArray} {ret : Option FieldType} {own nm : String} {EL : List (String × Nat)} {sf : List Addr} {Q : Outcome → State → Prop} {pc q : Nat} {Ls : Array Slot} {st rest : List Value}
theorem own_inb {c : Cell} {z j : Int32} {i : Nat} (S : c.slots.size = z.toNatClampNeg) (h0 : ¬ j < 0) (hj : j.toNatClampNeg = i) (hi : i < z.toNatClampNeg) : ¬ (j < 0 ∨ c.slots.size ≤ j.toNatClampNeg) := by
  rw [S, hj]
  exact fun y => y.elim h0 fun y => absurd hi (Nat.not_lt.mpr y)
theorem own_newRv (A : own_At w p l e R s m args below meth c bytes ret own nm mx Z n0 a0 EL sf T h cells slots) {i : Nat} {C : String} (w1 : (Jvm.Cond.classLink own i C).before a0 Z = true) (w2 : (Jvm.Cond.arrayOver (.object C)).before a0 Z = true) (hd : decode bytes pc = .ok (.anewarray i, 3)) {n : Int32} (cap : Nat) (hn : ¬ n < 0) (hcap : n.toNatClampNeg = cap) (hb : cap * 8 ≤ 536870912) (hc : cells + 1 ≤ R.cells) (hl : slots + cap ≤ R.slots)
    (k : ∀ T' h' a cA, h.size = a → n0 ≤ a → own_At w p l e R s m args below meth c bytes ret own nm mx Z n0 a0 EL (a :: sf) T' h' (cells + 1) (slots + cap) → Ext h h' → Arv Z h' a cA (.object C) n (List.replicate cap .null) .null → Ovr Z cA C → own_Run p e below Q m T' q Ls (.ref a :: rest)) (hq : pc + 3 = q := by rfl) : own_Run p e below Q m T pc Ls (.int n :: rest) :=
  own_newR A w1 w2 hd cap hn (Nat.le_of_eq hcap) hb hc hl (fun T' h' a cA g1 g2 A' E Ar Ov => k T' h' a cA g1 g2 A' E ((Arv.new Ar hn).pad (pad_rep [] .null cap)) Ov) hq
theorem own_newPv (A : own_At w p l e R s m args below meth c bytes ret own nm mx Z n0 a0 EL sf T h cells slots) {aty : ArrayType} {ty : FieldType} {dv : Value} (hty : newarray.typeOf aty = ty) (hdv : defaultValue ty = dv) (w1 : (Jvm.Cond.arrayClass ty).before a0 Z = true) (hd : decode bytes pc = .ok (.newarray aty, 2)) {n : Int32} (cap : Nat) (hn : ¬ n < 0) (hcap : n.toNatClampNeg = cap) (hb : cap * 8 ≤ 536870912) (hc : cells + 1 ≤ R.cells) (hl : slots + cap ≤ R.slots)
    (k : ∀ T' h' a cA, h.size = a → n0 ≤ a → own_At w p l e R s m args below meth c bytes ret own nm mx Z n0 a0 EL (a :: sf) T' h' (cells + 1) (slots + cap) → Ext h h' → Arv Z h' a cA ty n (List.replicate cap dv) dv → own_Run p e below Q m T' q Ls (.ref a :: rest)) (hq : pc + 2 = q := by rfl) : own_Run p e below Q m T pc Ls (.int n :: rest) := by
  subst hty hdv
  exact own_newP A w1 hd cap hn (Nat.le_of_eq hcap) hb hc hl (fun T' h' a cA g1 g2 A' E Ar => k T' h' a cA g1 g2 A' E ((Arv.new Ar hn).pad (pad_rep [] _ cap))) hq
theorem own_stRv (A : own_At w p l e R s m args below meth c bytes ret own nm mx Z n0 a0 EL sf T h cells slots) {a y : Addr} {cA : ClassId} {ty : FieldType} {C : String} {z j : Int32} {vs : List Value} {dv : Value} (V : Arv Z h a cA ty z vs dv) (Ov : Ovr Z cA C) (I : Ins Z h y C true) (i : Nat) (h0 : ¬ j < 0) (hj : j.toNatClampNeg = i) (hi : i < z.toNatClampNeg) (hi' : i < vs.length) (hty : ty.isReference = true) (hf : fits ty (.ref y) = true) (ha : n0 ≤ a) (hwo : own_Wok Z EL sf h a) (hd : decode bytes pc = .ok (.aastore, 1))
    (k : ∀ T' h' sl, own_At w p l e R s m args below meth c bytes ret own nm mx Z n0 a0 EL sf T' h' cells slots → Wr h h' a sl (.ref y) → Arv Z h' a cA ty z (vs.set i (.ref y)) dv → own_Run p e below Q m T' q Ls rest) (hq : pc + 1 = q := by rfl) : own_Run p e below Q m T pc Ls (.ref y :: .int j :: .ref a :: rest) := by
  obtain ⟨c, Ar, q1, S, q3, H, G⟩ := V
  exact own_stR A Ar (own_inb S h0 hj hi) hty (Sto.ofV Ar q1 Ov I) ha hwo hd (fun T' h' A' W => k T' h' _ A' W (Arv.set Ar q1 S q3 H G hf W i hj hi')) hq
theorem own_aaloadv (A : own_At w p l e R s m args below meth c bytes ret own nm mx Z n0 a0 EL sf T h cells slots) {a : Addr} {cA : ClassId} {ty : FieldType} {z j : Int32} {vs : List Value} {dv v : Value} (V : Arv Z h a cA ty z vs dv) (i : Nat) (h0 : ¬ j < 0) (hj : j.toNatClampNeg = i) (hi : i < z.toNatClampNeg) (hty : ty.isReference = true) (hv : vs.getD i dv = v) (hd : decode bytes pc = .ok (.aaload, 1)) (k : own_Run p e below Q m T q Ls (v :: rest)) (hq : pc + 1 = q := by rfl) : own_Run p e below Q m T pc Ls (.int j :: .ref a :: rest) := by
  obtain ⟨c, Ar, q1, S, q3, H, G⟩ := V
  have b := own_inb S h0 hj hi
  subst hj
  exact own_aaload A Ar hty b (H.at b hv) hd k hq
theorem own_arrlenv (A : own_At w p l e R s m args below meth c bytes ret own nm mx Z n0 a0 EL sf T h cells slots) {a : Addr} {cA : ClassId} {ty : FieldType} {z : Int32} {vs : List Value} {dv : Value} (V : Arv Z h a cA ty z vs dv) (hd : decode bytes pc = .ok (.arraylength, 1)) (k : own_Run p e below Q m T q Ls (.int z :: rest)) (hq : pc + 1 = q := by rfl) : own_Run p e below Q m T pc Ls (.ref a :: rest) := by
  obtain ⟨c, Ar, q1, S, q3, H, G⟩ := V
  refine own_arrlen A Ar hd ?_ hq
  rw [len_of S q3]
  exact k
theorem own_stCv (A : own_At w p l e R s m args below meth c bytes ret own nm mx Z n0 a0 EL sf T h cells slots) {a : Addr} {cA : ClassId} {z j x : Int32} {vs : List Value} {dv : Value} (V : Arv Z h a cA .char z vs dv) (i : Nat) (h0 : ¬ j < 0) (hj : j.toNatClampNeg = i) (hi : i < z.toNatClampNeg) (hi' : i < vs.length) (ha : n0 ≤ a) (hwo : own_Wok Z EL sf h a) (hd : decode bytes pc = .ok (.castore, 1))
    (k : ∀ T' h' sl, own_At w p l e R s m args below meth c bytes ret own nm mx Z n0 a0 EL sf T' h' cells slots → Wr h h' a sl (.int (nar .char x)) → Arv Z h' a cA .char z (vs.set i (.int (nar .char x))) dv → own_Run p e below Q m T' q Ls rest) (hq : pc + 1 = q := by rfl) : own_Run p e below Q m T pc Ls (.int x :: .int j :: .ref a :: rest) := by
  obtain ⟨c, Ar, q1, S, q3, H, G⟩ := V
  exact own_stC A Ar (own_inb S h0 hj hi) ha hwo hd (fun T' h' A' W => k T' h' _ A' W (Arv.set Ar q1 S q3 H G (fits_nar_char x) W i hj hi')) hq
theorem own_stIv (A : own_At w p l e R s m args below meth c bytes ret own nm mx Z n0 a0 EL sf T h cells slots) {a : Addr} {cA : ClassId} {z j x : Int32} {vs : List Value} {dv : Value} (V : Arv Z h a cA .int z vs dv) (i : Nat) (h0 : ¬ j < 0) (hj : j.toNatClampNeg = i) (hi : i < z.toNatClampNeg) (hi' : i < vs.length) (ha : n0 ≤ a) (hwo : own_Wok Z EL sf h a) (hd : decode bytes pc = .ok (.iastore, 1))
    (k : ∀ T' h' sl, own_At w p l e R s m args below meth c bytes ret own nm mx Z n0 a0 EL sf T' h' cells slots → Wr h h' a sl (.int x) → Arv Z h' a cA .int z (vs.set i (.int x)) dv → own_Run p e below Q m T' q Ls rest) (hq : pc + 1 = q := by rfl) : own_Run p e below Q m T pc Ls (.int x :: .int j :: .ref a :: rest) := by
  obtain ⟨c, Ar, q1, S, q3, H, G⟩ := V
  exact own_stI A Ar (own_inb S h0 hj hi) ha hwo hd (fun T' h' A' W => k T' h' _ A' W (Arv.set Ar q1 S q3 H G (rfl) W i hj hi')) hq
theorem own_stBv (A : own_At w p l e R s m args below meth c bytes ret own nm mx Z n0 a0 EL sf T h cells slots) {a : Addr} {cA : ClassId} {z j x : Int32} {vs : List Value} {dv : Value} (V : Arv Z h a cA .byte z vs dv) (i : Nat) (h0 : ¬ j < 0) (hj : j.toNatClampNeg = i) (hi : i < z.toNatClampNeg) (hi' : i < vs.length) (ha : n0 ≤ a) (hwo : own_Wok Z EL sf h a) (hd : decode bytes pc = .ok (.bastore, 1))
    (k : ∀ T' h' sl, own_At w p l e R s m args below meth c bytes ret own nm mx Z n0 a0 EL sf T' h' cells slots → Wr h h' a sl (.int (nar .byte x)) → Arv Z h' a cA .byte z (vs.set i (.int (nar .byte x))) dv → own_Run p e below Q m T' q Ls rest) (hq : pc + 1 = q := by rfl) : own_Run p e below Q m T pc Ls (.int x :: .int j :: .ref a :: rest) := by
  obtain ⟨c, Ar, q1, S, q3, H, G⟩ := V
  exact own_stB A Ar (own_inb S h0 hj hi) ha hwo hd (fun T' h' A' W => k T' h' _ A' W (Arv.set Ar q1 S q3 H G (fits_nar_byte x) W i hj hi')) hq
theorem own_ialoadv (A : own_At w p l e R s m args below meth c bytes ret own nm mx Z n0 a0 EL sf T h cells slots) {a : Addr} {cA : ClassId} {z j : Int32} {vs : List Value} {dv v : Value} (V : Arv Z h a cA .int z vs dv) (i : Nat) (h0 : ¬ j < 0) (hj : j.toNatClampNeg = i) (hi : i < z.toNatClampNeg) (hv : vs.getD i dv = v) (hd : decode bytes pc = .ok (.iaload, 1)) (k : own_Run p e below Q m T q Ls (v :: rest)) (hq : pc + 1 = q := by rfl) : own_Run p e below Q m T pc Ls (.int j :: .ref a :: rest) := by
  obtain ⟨c, Ar, q1, S, q3, H, G⟩ := V
  have b := own_inb S h0 hj hi
  subst hj
  exact own_iaload A Ar b (H.at b hv) hd k hq
theorem own_caloadv (A : own_At w p l e R s m args below meth c bytes ret own nm mx Z n0 a0 EL sf T h cells slots) {a : Addr} {cA : ClassId} {z j : Int32} {vs : List Value} {dv v : Value} (V : Arv Z h a cA .char z vs dv) (i : Nat) (h0 : ¬ j < 0) (hj : j.toNatClampNeg = i) (hi : i < z.toNatClampNeg) (hv : vs.getD i dv = v) (hd : decode bytes pc = .ok (.caload, 1)) (k : own_Run p e below Q m T q Ls (v :: rest)) (hq : pc + 1 = q := by rfl) : own_Run p e below Q m T pc Ls (.int j :: .ref a :: rest) := by
  obtain ⟨c, Ar, q1, S, q3, H, G⟩ := V
  have b := own_inb S h0 hj hi
  subst hj
  exact own_caload A Ar b (H.at b hv) hd k hq
theorem own_baloadv (A : own_At w p l e R s m args below meth c bytes ret own nm mx Z n0 a0 EL sf T h cells slots) {a : Addr} {cA : ClassId} {z j : Int32} {vs : List Value} {dv v : Value} (V : Arv Z h a cA .byte z vs dv) (i : Nat) (h0 : ¬ j < 0) (hj : j.toNatClampNeg = i) (hi : i < z.toNatClampNeg) (hv : vs.getD i dv = v) (hd : decode bytes pc = .ok (.baload, 1)) (k : own_Run p e below Q m T q Ls (v :: rest)) (hq : pc + 1 = q := by rfl) : own_Run p e below Q m T pc Ls (.int j :: .ref a :: rest) := by
  obtain ⟨c, Ar, q1, S, q3, H, G⟩ := V
  have b := own_inb S h0 hj hi
  subst hj
  exact own_baload A Ar b (H.at b hv) hd k hq
theorem own_and3 (x : Int32) : x &&& 3 = 0 ∨ x &&& 3 = 1 ∨ x &&& 3 = 2 ∨ x &&& 3 = 3 := by
  have e := c_mask x 3 2 (by decide) (by decide)
  have e4 : ((2 ^ 2 : Nat) : Int) = 4 := rfl
  rw [e4] at e
  have e0 : (0 : Int32).toInt = 0 := rfl
  have e1 : (1 : Int32).toInt = 1 := rfl
  have e2 : (2 : Int32).toInt = 2 := rfl
  have e3 : (3 : Int32).toInt = 3 := rfl
  simp only [← Int32.toInt_inj]
  omega
end OwnArr
section OwnMore
variable {w : Bool} {p : Program} {l : Launch} {e : Env} {R : Room} {s : State} {m : MethodId} {args : Array Value} {below : List Frame} {meth : Method} {c : Code} {T : State} {cells slots n0 mx : Nat} {Z : State} {a0 : Array Value} {h : Heap} {bytes : ByteArray} {ret : Option FieldType} {own nm : String} {EL : List (String × Nat)} {sf : List Addr} {Q : Outcome → State → Prop} {pc q : Nat} {Ls : Array Slot} {st rest : List Value}
theorem own_clone (A : own_At w p l e R s m args below meth c bytes ret own nm mx Z n0 a0 EL sf T h cells slots) {i W cap : Nat} {ad : String} {a : Addr} {cA : ClassId} {ty : FieldType} {z : Int32} {vs : List Value} {dv : Value} (w1 : (Jvm.Cond.methodLink own i ⟨ad, "clone", "()Ljava/lang/Object;"⟩).before a0 Z = true) (w2 : (Jvm.Cond.sameMethod ad "java/lang/Object" "clone" "()Ljava/lang/Object;").before a0 Z = true) (w3 : (Jvm.Cond.native ⟨"java/lang/Object", "clone", "()Ljava/lang/Object;"⟩).before a0 Z = true)
    (w4 : (Jvm.Cond.instanceMethod ⟨"java/lang/Object", "clone", "()Ljava/lang/Object;"⟩).before a0 Z = true) (w5 : (Jvm.Cond.selects ad ⟨ad, "clone", "()Ljava/lang/Object;"⟩ ⟨"java/lang/Object", "clone", "()Ljava/lang/Object;"⟩).before a0 Z = true) (w6 : (Jvm.Cond.castable ad "java/lang/Cloneable").before a0 Z = true)
    (V : Arv Z h a cA ty z vs dv) (E : Exa Z h a ad) (hsz : Ls.size = mx) (hd : decode bytes pc = .ok (.invokevirtual i, 3)) (hf : 1 ≤ R.frames) (hW : (rest.map fun v => v.category).sum ≤ W) (hl : W + 14 ≤ R.locals) (hcap : z.toNatClampNeg ≤ cap) (hc : cells + 1 ≤ R.cells) (hs : slots + cap ≤ R.slots)
    (k : ∀ T' h' b, h.size = b → n0 ≤ b → own_At w p l e R s m args below meth c bytes ret own nm mx Z n0 a0 EL (b :: sf) T' h' (cells + 1) (slots + cap) → Ext h h' → Arv Z h' b cA ty z vs dv → Exa Z h' b ad → own_Run p e below Q m T' q Ls (.ref b :: rest)) (hq : pc + 3 = q := by rfl) : own_Run p e below Q m T pc Ls (.ref a :: rest) := by
  have g0 := A.fr
  obtain ⟨⟨hx, hby, r1, r2, r3, r4⟩, vm0, locs, X, B, hZ, hown, hT, N, Od, hEL, Ch, Sf⟩ := A
  subst hby hq
  obtain ⟨T', h', X', e', E1, V', E', st'⟩ := cloneH X hx (s := s.setVm vm0) hZ hown w1 w2 w3 w4 w5 w6 hT V.arh E (g := mkF m pc Ls (.ref a :: rest)) rfl (hsz.trans r4.symm) rfl hd hf (W := W) (by show 2 * 0 + _ ≤ _; rw [Nat.mul_zero, Nat.zero_add]; exact hW) hl hcap hc hs
  exact own_by st' (k T' h' h.size rfl g0 ⟨⟨hx, rfl, r1, r2, r3, r4⟩, vm0, _, X', B.le E1.1, hZ, hown, e', N, Od.ext E1, hEL, Ch.trans (CHr.ext E1 Ch.1), Sf.new Ch.1 E1 E'.lt⟩ E1 V' E')
theorem own_cast (A : own_At w p l e R s m args below meth c bytes ret own nm mx Z n0 a0 EL sf T h cells slots) {i : Nat} {K : String} {a : Addr} (w1 : (Jvm.Cond.classLink own i K).before a0 Z = true) (I : Ins Z h a K true) (hd : decode bytes pc = .ok (.checkcast i, 3)) (k : ∀ T', own_At w p l e R s m args below meth c bytes ret own nm mx Z n0 a0 EL sf T' h cells slots → own_Run p e below Q m T' q Ls (.ref a :: rest)) (hq : pc + 3 = q := by rfl) : own_Run p e below Q m T pc Ls (.ref a :: rest) := by
  obtain ⟨⟨hx, hby, r⟩, vm0, locs, X, B, hZ, hown, hT, N, Od, hEL, Ch, Sf⟩ := A
  subst hby hq
  obtain ⟨T', X', e', st'⟩ := castY X hx (s := s.setVm vm0) hZ hown w1 hT I (g := mkF m pc Ls (.ref a :: rest)) rfl rfl hd
  exact own_by st' (k T' ⟨⟨hx, rfl, r⟩, vm0, locs, X', B, hZ, hown, e', N, Od, hEL, Ch, Sf⟩)
theorem own_inst (A : own_At w p l e R s m args below meth c bytes ret own nm mx Z n0 a0 EL sf T h cells slots) {i : Nat} {K : String} {a : Addr} (w1 : (Jvm.Cond.classLink own i K).before a0 Z = true) (I : Ins Z h a K true) (hd : decode bytes pc = .ok (.instanceof i, 3)) (k : ∀ T', own_At w p l e R s m args below meth c bytes ret own nm mx Z n0 a0 EL sf T' h cells slots → own_Run p e below Q m T' q Ls (.int 1 :: rest)) (hq : pc + 3 = q := by rfl) : own_Run p e below Q m T pc Ls (.ref a :: rest) := by
  obtain ⟨⟨hx, hby, r⟩, vm0, locs, X, B, hZ, hown, hT, N, Od, hEL, Ch, Sf⟩ := A
  subst hby hq
  obtain ⟨T', X', e', st'⟩ := instY X hx (s := s.setVm vm0) hZ hown w1 hT I (g := mkF m pc Ls (.ref a :: rest)) rfl rfl hd
  exact own_by st' (k T' ⟨⟨hx, rfl, r⟩, vm0, locs, X', B, hZ, hown, e', N, Od, hEL, Ch, Sf⟩)
end OwnMore
section OwnStr
variable {w : Bool} {p : Program} {l : Launch} {e : Env} {R : Room} {s : State} {m : MethodId} {args : Array Value} {below : List Frame} {meth : Method} {c : Code} {T : State} {cells slots n0 mx : Nat} {Z : State} {a0 : Array Value} {h : Heap} {bytes : ByteArray} {ret : Option FieldType} {own nm : String} {EL : List (String × Nat)} {sf : List Addr} {Q : Outcome → State → Prop} {pc q : Nat} {Ls : Array Slot} {st rest : List Value}
theorem own_payV {len W kI : Nat} (hws : ∀ d ∈ StrChars.Road.words, d.before a0 Z = true) (wi : (Jvm.Cond.instantiable "java/lang/String" kI).before a0 Z = true) {x b : Addr} {kC : ClassId} {cs bs : List Int32} {d v0 c0 : Value} {N : Int32} {n : Nat} (O : Old Z n0 h) (hx0 : n0 ≤ x) (E : Exa Z h x "java/lang/String") (V : Fld Z h x "java/lang/String" "value" "[B" v0) (C : Fld Z h x "java/lang/String" "coder" "B" c0) (K : Arv Z h b kC .char N (cs.map Value.int) d) {zc : Int32} (SC : Sta Z Z.heap "java/lang/String" "COMPACT_STRINGS" "Z" (.int zc)) (hz : ¬ zc = 0)
    (hn : cs.length = n) (hN : N = Int32.ofNat n) (l0 : 0 < n) (l2 : n ≤ 4000) (hp : ∀ c ∈ cs, ¬ c < 0 ∧ ¬ (255 : Int32) < c) (hb : bs = cs.map (fun c => c.toInt8.toInt32)) (hfr : 4 ≤ R.frames) (hlo : W + 65 ≤ R.locals) :
    own_Pays l R p e below s args Z n0 EL [x] (⟨"java/lang/String", "<init>", "([C)V"⟩ : MethodName) len W 1 n #[.ref x, .ref b] h (fun v h' => v = none ∧ Keep h h' [x] ∧ Exa Z h' x "java/lang/String" ∧ Fld Z h' x "java/lang/String" "coder" "B" (.int 0) ∧ ∃ (t : Addr) (kb : ClassId), n0 ≤ t ∧ h.size ≤ t ∧ Fld Z h' x "java/lang/String" "value" "[B" (.ref t) ∧ Arv Z h' t kb .byte N (bs.map Value.int) (.int 0)) := fun vm0 hZ =>
  Back.mono (StrChars.Road.backV (s := s.setVm vm0) hZ hws wi hx0 (O.1 ▸ O.2.1) E V C K (SC.ext O.2) hz hn hN l0 l2 hp hb hfr hlo) (fun _ _ z => z) (fun A a v B hp ⟨L, ⟨q1, q2, q3, q4, q5, t, kb, r1, r2, r3, r4, r5⟩, l1, l2, l3⟩ => ⟨L, ⟨⟨q1, q3, q4, q5, t, kb, r1, r2, r4, r5⟩, q2, O.keep q3 (allS hx0 all0), q3.1, Or.inr q3⟩, l1, l2, l3⟩)
theorem own_payEq {len W kI : Nat} (hws : ∀ d ∈ StrChars.Road.wordsEq, d.before a0 Z = true) (wi : (Jvm.Cond.instantiable "java/lang/String" kI).before a0 Z = true) {x1 t1 : Addr} {kb1 : ClassId} {cs1 : List Int32} {cd1 N1 : Int32} {vs1 : List Value} {x2 t2 : Addr} {kb2 : ClassId} {cs2 : List Int32} {cd2 N2 : Int32} {vs2 : List Value} (O : Old Z n0 h) (E1 : Exa Z h x1 "java/lang/String") (V1 : Fld Z h x1 "java/lang/String" "value" "[B" (.ref t1)) (C1 : Fld Z h x1 "java/lang/String" "coder" "B" (.int cd1)) (K1 : Arv Z h t1 kb1 .byte N1 vs1 (.int 0)) (hc1 : StrChars.Road.CodA cs1 cd1 N1 vs1) (hb1 : ∀ c ∈ cs1, ¬ c < 0 ∧ ¬ (65535 : Int32) < c) (l21 : cs1.length ≤ 4000) (E2 : Exa Z h x2 "java/lang/String") (V2 : Fld Z h x2 "java/lang/String" "value" "[B" (.ref t2)) (C2 : Fld Z h x2 "java/lang/String" "coder" "B" (.int cd2)) (K2 : Arv Z h t2 kb2 .byte N2 vs2 (.int 0)) (hc2 : StrChars.Road.CodA cs2 cd2 N2 vs2) (hb2 : ∀ c ∈ cs2, ¬ c < 0 ∧ ¬ (65535 : Int32) < c) (l22 : cs2.length ≤ 4000) {zc : Int32} (SC : Sta Z Z.heap "java/lang/String" "COMPACT_STRINGS" "Z" (.int zc)) (hz : ¬ zc = 0) (hfr : 2 ≤ R.frames) (hlo : W + 28 ≤ R.locals) :
    own_Pays l R p e below s args Z n0 EL [] (⟨"java/lang/String", "equals", "(Ljava/lang/Object;)Z"⟩ : MethodName) len W 0 0 #[.ref x1, .ref x2] h (fun v h' => ((v = some (.int 1) ∧ cs1 = cs2) ∨ (v = some (.int 0) ∧ ¬ cs1 = cs2)) ∧ h = h') := fun vm0 hZ =>
  Back.mono (StrChars.Road.eqW (s := s.setVm vm0) hZ hws wi E1 V1 C1 K1 hc1 hb1 l21 E2 V2 C2 K2 hc2 hb2 l22 (SC.ext O.2) hz hfr hlo) (fun _ _ z => z) (fun A a v B hp ⟨L, ⟨q1, q2, q3⟩, l1, l2, l3⟩ => by
    subst q2
    exact ⟨[], ⟨⟨q1, q3.symm⟩, Fr.nil _, by rw [q3]; exact O, by rw [q3]; exact Nat.le_refl _, Or.inr (by rw [q3]; exact Keep.refl _ _)⟩, l1, l2, l3⟩)
theorem own_payEmp {len W kI : Nat} (hws : ∀ d ∈ StrChars.Road.wordsEmp, d.before a0 Z = true) (wi : (Jvm.Cond.instantiable "java/lang/String" kI).before a0 Z = true) {x1 t1 : Addr} {kb1 : ClassId} {cs1 : List Int32} {cd1 N1 : Int32} {vs1 : List Value} (O : Old Z n0 h) (E1 : Exa Z h x1 "java/lang/String") (V1 : Fld Z h x1 "java/lang/String" "value" "[B" (.ref t1)) (C1 : Fld Z h x1 "java/lang/String" "coder" "B" (.int cd1)) (K1 : Arv Z h t1 kb1 .byte N1 vs1 (.int 0)) (hc1 : StrChars.Road.CodA cs1 cd1 N1 vs1) (hb1 : ∀ c ∈ cs1, ¬ c < 0 ∧ ¬ (65535 : Int32) < c) (l21 : cs1.length ≤ 4000) (hfr : 1 ≤ R.frames) (hlo : W + 12 ≤ R.locals) :
    own_Pays l R p e below s args Z n0 EL [] (⟨"java/lang/String", "isEmpty", "()Z"⟩ : MethodName) len W 0 0 #[.ref x1] h (fun v h' => v = some (.int (if cs1.length = 0 then 1 else 0)) ∧ h = h') := fun vm0 hZ =>
  Back.mono (StrChars.Road.empW (s := s.setVm vm0) hZ hws wi E1 V1 C1 K1 hc1 hb1 l21 hfr hlo) (fun _ _ z => z) (fun A a v B hp ⟨L, ⟨q1, q2, q3⟩, l1, l2, l3⟩ => by
    subst q2
    exact ⟨[], ⟨⟨q1, q3.symm⟩, Fr.nil _, by rw [q3]; exact O, by rw [q3]; exact Nat.le_refl _, Or.inr (by rw [q3]; exact Keep.refl _ _)⟩, l1, l2, l3⟩)
theorem own_cod (cs : List Int32) {n : Nat} {N : Int32} {vs : List Value} (hn : cs.length = n) (hb : ∀ c ∈ cs, ¬ (255 : Int32) < c) (hN : Int32.ofNat n = N) (hv : (cs.map (fun c => c.toInt8.toInt32)).map Value.int = vs) : StrChars.Road.CodA cs 0 N vs := by
  subst hN hv
  exact StrChars.Road.codOf hn hb
end OwnStr
section OwnCase
variable {args : Array Value} {s : State} {t : Term}
theorem own_ord {C n d : String} {k : Int32} {a : Addr} (ev : t.eval args s none [] s = some (.ref a)) (q : (Jvm.Cond.eq (Term.field t C n d) (Term.int k)).value args s none s [] = some true) : Fld s s.heap a C n d (.int k) := by
  obtain ⟨x, y, e1, e2, k1, k2⟩ := cmp_v (Or.inl q)
  obtain rfl : y = .int k := Option.some.inj (e2.symm.trans (Term.int_eval k))
  obtain ⟨z, rfl⟩ : ∃ z, x = .int z := k2
  obtain rfl : z = k := gotT (Cond.eq_ints e1 (Term.int_eval k)) q
  exact Fld.start ((fld_at ev).symm.trans e1)
theorem own_elem {ty : FieldType} {i k : Int32} {a : Addr} {c : Cell} (ev : t.eval args s none [] s = some (.ref a)) (Ar : Arr s s.heap a c ty) (q : (Jvm.Cond.eq (Term.elem t (Term.int i)) (Term.int k)).value args s none s [] = some true) : ¬ (i < 0 ∨ c.slots.size ≤ i.toNatClampNeg) ∧ c.slots[i.toNatClampNeg]? = some (.int k) := by
  obtain ⟨x, y, e1, e2, k1, k2⟩ := cmp_v (Or.inl q)
  obtain rfl : y = .int k := Option.some.inj (e2.symm.trans (Term.int_eval k))
  obtain ⟨z, rfl⟩ : ∃ z, x = .int z := k2
  obtain rfl : z = k := gotT (Cond.eq_ints e1 (Term.int_eval k)) q
  exact elem_in e1 ev (Term.int_eval i) Ar.1
theorem own_staI {C n d : String} {k : Int32} (q : (Jvm.Cond.eq (Term.static C n d) (Term.int k)).value args s none s [] = some true) : (Term.static C n d).eval args s none [] s = some (.int k) := by
  obtain ⟨x, y, e1, e2, k1, k2⟩ := cmp_v (Or.inl q)
  obtain rfl : y = .int k := Option.some.inj (e2.symm.trans (Term.int_eval k))
  obtain ⟨z, rfl⟩ : ∃ z, x = .int z := k2
  obtain rfl : z = k := gotT (Cond.eq_ints e1 (Term.int_eval k)) q
  exact e1
end OwnCase
section OwnCase2
variable {args : Array Value} {s : State} {t u : Term}
theorem own_eqR {r : Addr} (q : (Jvm.Cond.eq t u).value args s none s [] = some true) (eb : u.eval args s none [] s = some (.ref r)) : t.eval args s none [] s = some (.ref r) := by
  obtain ⟨x, y, e1, e2, k1, k2⟩ := cmp_v (Or.inl q)
  obtain rfl : y = .ref r := Option.some.inj (e2.symm.trans eb)
  have hx : x.isRef = true := (show (Value.ref r).isRef = true ∧ x.isRef = true from k2).2
  obtain rfl : x = .ref r := gotT (eq_R e1 e2 hx rfl) q
  exact e1
theorem own_len {ty : FieldType} {k : Int32} {a : Addr} {c : Cell} (ev : t.eval args s none [] s = some (.ref a)) (Ar : Arr s s.heap a c ty) (q : (Jvm.Cond.eq (Term.length t) (Term.int k)).value args s none s [] = some true) : c.slots.size < 2 ^ 31 ∧ c.slots.size.toInt32 = k := by
  obtain ⟨x, y, e1, e2, k1, k2⟩ := cmp_v (Or.inl q)
  have ha : s.arrayAt? a = some c := Arr.fin (Vm.Alike.refl _) Ar
  have hl : c.slots.size < 2 ^ 31 := by
    simp only [Term.eval, ev, ha, Option.bind_eq_bind, Option.bind_some] at e1
    split at e1
    · rename_i h; exact h
    · cases e1
  exact ⟨hl, gotT (Cond.eq_ints (len_f ev ha hl) (Term.int_eval k)) q⟩
end OwnCase2
theorem own_pd0 : parseMethodDescriptor "()[C" = some ⟨[], some (.array .char)⟩ := by decide +kernel
theorem own_pd1 : parseMethodDescriptor "(IC)[C" = some ⟨[.int, .char], some (.array .char)⟩ := by decide +kernel
theorem own_pd2 : parseMethodDescriptor "(I)Ljava/lang/String;" = some ⟨[.int], some (.object "java/lang/String")⟩ := by decide +kernel
theorem own_pd3 : parseMethodDescriptor "(Ljava/lang/String;)Lcom/example/linkfield/linkfield/core/HttpCheck;" = some ⟨[(.object "java/lang/String")], some (.object "com/example/linkfield/linkfield/core/HttpCheck")⟩ := by decide +kernel
theorem own_pd4 : parseMethodDescriptor "(Lcom/example/linkfield/linkfield/core/Verdict;Ljava/lang/String;Ljava/lang/String;)V" = some ⟨[(.object "com/example/linkfield/linkfield/core/Verdict"), (.object "java/lang/String"), (.object "java/lang/String")], none⟩ := by decide +kernel
theorem own_pd5 : parseMethodDescriptor "()V" = some ⟨[], none⟩ := by decide +kernel
theorem own_pd6 : parseMethodDescriptor "()Lcom/example/linkfield/linkfield/core/Verdict;" = some ⟨[], some (.object "com/example/linkfield/linkfield/core/Verdict")⟩ := by decide +kernel
theorem own_pd7 : parseMethodDescriptor "()Ljava/lang/String;" = some ⟨[], some (.object "java/lang/String")⟩ := by decide +kernel
theorem own_pd8 : parseMethodDescriptor "([C)V" = some ⟨[(.array .char)], none⟩ := by decide +kernel
theorem own_pd9 : parseMethodDescriptor "([CIILjava/lang/Void;)V" = some ⟨[(.array .char), .int, .int, (.object "java/lang/Void")], none⟩ := by decide +kernel
theorem own_pd10 : parseMethodDescriptor "(Ljava/lang/Object;)Z" = some ⟨[(.object "java/lang/Object")], some .boolean⟩ := by decide +kernel
theorem own_pd11 : parseMethodDescriptor "()Z" = some ⟨[], some .boolean⟩ := by decide +kernel
theorem own_satoms {Z : State} {a0 : Array Value} (hw : ∀ d ∈ tables_1, d.before a0 Z = true) : ∀ d ∈ Bundle.stringAtoms, d.before a0 Z = true := by
  intro d hd
  simp only [Bundle.stringAtoms, List.mem_cons, List.not_mem_nil, or_false] at hd
  rcases hd with rfl | rfl | rfl | rfl | rfl | rfl | rfl
  all_goals exact hw _ (by decide +kernel)
theorem own_wV {Z : State} {a0 : Array Value} (hw : ∀ d ∈ tables_1, d.before a0 Z = true) : ∀ d ∈ StrChars.Road.words, d.before a0 Z = true := fun d hd => hw d ((by decide +kernel : ∀ d ∈ StrChars.Road.words, d ∈ tables_1) d hd)
theorem own_wEq {Z : State} {a0 : Array Value} (hw : ∀ d ∈ tables_1, d.before a0 Z = true) : ∀ d ∈ StrChars.Road.wordsEq, d.before a0 Z = true := fun d hd => hw d ((by decide +kernel : ∀ d ∈ StrChars.Road.wordsEq, d ∈ tables_1) d hd)
theorem own_wEmp {Z : State} {a0 : Array Value} (hw : ∀ d ∈ tables_1, d.before a0 Z = true) : ∀ d ∈ StrChars.Road.wordsEmp, d.before a0 Z = true := fun d hd => hw d ((by decide +kernel : ∀ d ∈ StrChars.Road.wordsEmp, d ∈ tables_1) d hd)
theorem own_fc {P : Int32 → Prop} {b : Int32} {l : List Int32} (h : P b) (t : ∀ c ∈ l, P c) : ∀ c ∈ b :: l, P c := fun c hc => by
  rcases List.mem_cons.mp hc with rfl | hc
  · exact h
  · exact t c hc
theorem own_b16 {cs : List Int32} (hp : ∀ c ∈ cs, ¬ c < 0 ∧ ¬ (255 : Int32) < c) : ∀ c ∈ cs, ¬ c < 0 ∧ ¬ (65535 : Int32) < c := fun c hc => by
  obtain ⟨h0, h1⟩ := hp c hc
  refine ⟨h0, ?_⟩
  rw [Int32.lt_iff_toInt_lt] at h1 ⊢
  have e : (255 : Int32).toInt = 255 := rfl
  have e' : (65535 : Int32).toInt = 65535 := rfl
  omega
theorem own_byte (y : Int32) : ∃ c : Int32, (y &&& (255 : Int32)).toUInt32.toUInt16.toUInt32.toInt32 = c ∧ ¬ c < 0 ∧ ¬ (255 : Int32) < c ∧ nar .char c = c := by
  have e3 := c_mask y 255 8 (by decide) (by decide)
  have e8 : ((2 ^ 8 : Nat) : Int) = 256 := rfl
  rw [e8] at e3
  have c0 := c_i2c (y &&& (255 : Int32))
  have eC : (y &&& (255 : Int32)).toUInt32.toUInt16.toUInt32.toInt32 = y &&& 255 := by
    rw [← Int32.toInt_inj]
    omega
  have e : (255 : Int32).toInt = 255 := rfl
  have z : (0 : Int32).toInt = 0 := rfl
  refine ⟨y &&& 255, eC, ?_, ?_, eC⟩
  · rw [Int32.lt_iff_toInt_lt]
    omega
  · rw [Int32.lt_iff_toInt_lt]
    omega
def own_S1 (u : Slot) : Prop := u = .unset ∨ (∃ z, u = .val (.int z)) ∨ ∃ a, u = .val (.ref a)
theorem own_st8 {u0 u1 u2 u3 u4 u5 u6 u7 u u9 u10 : Slot} (h : own_S1 u) {a : Addr} : storeLocals #[u0, u1, u2, u3, u4, u5, u6, u7, u, u9, u10] 8 (.ref a) = some #[u0, u1, u2, u3, u4, u5, u6, u7, .val (.ref a), u9, u10] := by
  rcases h with rfl | ⟨z, rfl⟩ | ⟨z, rfl⟩ <;> rfl
theorem own_st9 {u0 u1 u2 u3 u4 u5 u6 u7 u8 u u10 : Slot} (h : own_S1 u) {a : Addr} : storeLocals #[u0, u1, u2, u3, u4, u5, u6, u7, u8, u, u10] 9 (.ref a) = some #[u0, u1, u2, u3, u4, u5, u6, u7, u8, .val (.ref a), u10] := by
  rcases h with rfl | ⟨z, rfl⟩ | ⟨z, rfl⟩ <;> rfl
theorem own_rem9 (y : Int32) : (y &&& (2147483647 : Int32)) % (9 : Int32) = 0 ∨ (y &&& (2147483647 : Int32)) % (9 : Int32) = 1 ∨ (y &&& (2147483647 : Int32)) % (9 : Int32) = 2 ∨ (y &&& (2147483647 : Int32)) % (9 : Int32) = 3 ∨ (y &&& (2147483647 : Int32)) % (9 : Int32) = 4 ∨ (y &&& (2147483647 : Int32)) % (9 : Int32) = 5 ∨ (y &&& (2147483647 : Int32)) % (9 : Int32) = 6 ∨ (y &&& (2147483647 : Int32)) % (9 : Int32) = 7 ∨ (y &&& (2147483647 : Int32)) % (9 : Int32) = 8 := by
  have e := c_mask y 2147483647 31 (by decide) (by decide)
  have p : ((2 ^ 31 : Nat) : Int) = 2147483648 := rfl
  rw [p] at e
  have e0 : (0 : Int32).toInt = 0 := rfl
  have e1 : (1 : Int32).toInt = 1 := rfl
  have e2 : (2 : Int32).toInt = 2 := rfl
  have e3 : (3 : Int32).toInt = 3 := rfl
  have e4 : (4 : Int32).toInt = 4 := rfl
  have e5 : (5 : Int32).toInt = 5 := rfl
  have e6 : (6 : Int32).toInt = 6 := rfl
  have e7 : (7 : Int32).toInt = 7 := rfl
  have e8 : (8 : Int32).toInt = 8 := rfl
  have e9 : (9 : Int32).toInt = 9 := rfl
  have r := (c_irem (y &&& 2147483647) 9 9 e9).1 (by omega)
  simp only [← Int32.toInt_inj]
  omega
theorem own_rem11 (y : Int32) : (y &&& (2147483647 : Int32)) % (11 : Int32) = 0 ∨ (y &&& (2147483647 : Int32)) % (11 : Int32) = 1 ∨ (y &&& (2147483647 : Int32)) % (11 : Int32) = 2 ∨ (y &&& (2147483647 : Int32)) % (11 : Int32) = 3 ∨ (y &&& (2147483647 : Int32)) % (11 : Int32) = 4 ∨ (y &&& (2147483647 : Int32)) % (11 : Int32) = 5 ∨ (y &&& (2147483647 : Int32)) % (11 : Int32) = 6 ∨ (y &&& (2147483647 : Int32)) % (11 : Int32) = 7 ∨ (y &&& (2147483647 : Int32)) % (11 : Int32) = 8 ∨ (y &&& (2147483647 : Int32)) % (11 : Int32) = 9 ∨ (y &&& (2147483647 : Int32)) % (11 : Int32) = 10 := by
  have e := c_mask y 2147483647 31 (by decide) (by decide)
  have p : ((2 ^ 31 : Nat) : Int) = 2147483648 := rfl
  rw [p] at e
  have e0 : (0 : Int32).toInt = 0 := rfl
  have e1 : (1 : Int32).toInt = 1 := rfl
  have e2 : (2 : Int32).toInt = 2 := rfl
  have e3 : (3 : Int32).toInt = 3 := rfl
  have e4 : (4 : Int32).toInt = 4 := rfl
  have e5 : (5 : Int32).toInt = 5 := rfl
  have e6 : (6 : Int32).toInt = 6 := rfl
  have e7 : (7 : Int32).toInt = 7 := rfl
  have e8 : (8 : Int32).toInt = 8 := rfl
  have e9 : (9 : Int32).toInt = 9 := rfl
  have e10 : (10 : Int32).toInt = 10 := rfl
  have e11 : (11 : Int32).toInt = 11 := rfl
  have r := (c_irem (y &&& 2147483647) 11 11 e11).1 (by omega)
  simp only [← Int32.toInt_inj]
  omega
theorem own_and7 (y : Int32) : y &&& (7 : Int32) = 0 ∨ y &&& (7 : Int32) = 1 ∨ y &&& (7 : Int32) = 2 ∨ y &&& (7 : Int32) = 3 ∨ y &&& (7 : Int32) = 4 ∨ y &&& (7 : Int32) = 5 ∨ y &&& (7 : Int32) = 6 ∨ y &&& (7 : Int32) = 7 := by
  have e := c_mask y 7 3 (by decide) (by decide)
  have p : ((2 ^ 3 : Nat) : Int) = 8 := rfl
  rw [p] at e
  have e0 : (0 : Int32).toInt = 0 := rfl
  have e1 : (1 : Int32).toInt = 1 := rfl
  have e2 : (2 : Int32).toInt = 2 := rfl
  have e3 : (3 : Int32).toInt = 3 := rfl
  have e4 : (4 : Int32).toInt = 4 := rfl
  have e5 : (5 : Int32).toInt = 5 := rfl
  have e6 : (6 : Int32).toInt = 6 := rfl
  have e7 : (7 : Int32).toInt = 7 := rfl
  simp only [← Int32.toInt_inj]
  omega
theorem own_At.up {w : Bool} {p : Program} {l : Launch} {e : Env} {R : Room} {s : State} {m : MethodId} {args : Array Value} {below : List Frame} {meth : Method} {c : Code} {T : State} {cells slots n0 mx : Nat} {Z : State} {a0 : Array Value} {h : Heap} {bytes : ByteArray} {ret : Option FieldType} {own nm : String} {EL : List (String × Nat)} {sf : List Addr} {cells' slots' : Nat} (A : own_At w p l e R s m args below meth c bytes ret own nm mx Z n0 a0 EL sf T h cells slots) (hk : cells ≤ cells') (hn : slots ≤ slots') : own_At w p l e R s m args below meth c bytes ret own nm mx Z n0 a0 EL sf T h cells' slots' := by
  obtain ⟨r, vm0, locs, X, t⟩ := A
  exact ⟨r, vm0, locs, { X with same := X.same.mono hk hn }, t⟩
theorem d1_0 : decode method_2_code 0 = .ok (.bipush 9, 2) := by decide +kernel
theorem d1_2 : decode method_2_code 2 = .ok (.newarray .char, 2) := by decide +kernel
theorem d1_4 : decode method_2_code 4 = .ok (.dup, 1) := by decide +kernel
theorem d1_5 : decode method_2_code 5 = .ok (.iconst 0, 1) := by decide +kernel
theorem d1_6 : decode method_2_code 6 = .ok (.bipush 114, 2) := by decide +kernel
theorem d1_8 : decode method_2_code 8 = .ok (.castore, 1) := by decide +kernel
theorem d1_9 : decode method_2_code 9 = .ok (.dup, 1) := by decide +kernel
theorem d1_10 : decode method_2_code 10 = .ok (.iconst 1, 1) := by decide +kernel
theorem d1_11 : decode method_2_code 11 = .ok (.bipush 101, 2) := by decide +kernel
theorem d1_13 : decode method_2_code 13 = .ok (.castore, 1) := by decide +kernel
theorem d1_14 : decode method_2_code 14 = .ok (.dup, 1) := by decide +kernel
theorem d1_15 : decode method_2_code 15 = .ok (.iconst 2, 1) := by decide +kernel
theorem d1_16 : decode method_2_code 16 = .ok (.bipush 100, 2) := by decide +kernel
theorem d1_18 : decode method_2_code 18 = .ok (.castore, 1) := by decide +kernel
theorem d1_19 : decode method_2_code 19 = .ok (.dup, 1) := by decide +kernel
theorem d1_20 : decode method_2_code 20 = .ok (.iconst 3, 1) := by decide +kernel
theorem d1_21 : decode method_2_code 21 = .ok (.bipush 105, 2) := by decide +kernel
theorem d1_23 : decode method_2_code 23 = .ok (.castore, 1) := by decide +kernel
theorem d1_24 : decode method_2_code 24 = .ok (.dup, 1) := by decide +kernel
theorem d1_25 : decode method_2_code 25 = .ok (.iconst 4, 1) := by decide +kernel
theorem d1_26 : decode method_2_code 26 = .ok (.bipush 114, 2) := by decide +kernel
theorem d1_28 : decode method_2_code 28 = .ok (.castore, 1) := by decide +kernel
theorem d1_29 : decode method_2_code 29 = .ok (.dup, 1) := by decide +kernel
theorem d1_30 : decode method_2_code 30 = .ok (.iconst 5, 1) := by decide +kernel
theorem d1_31 : decode method_2_code 31 = .ok (.bipush 101, 2) := by decide +kernel
theorem d1_33 : decode method_2_code 33 = .ok (.castore, 1) := by decide +kernel
theorem d1_34 : decode method_2_code 34 = .ok (.dup, 1) := by decide +kernel
theorem d1_35 : decode method_2_code 35 = .ok (.bipush 6, 2) := by decide +kernel
theorem d1_37 : decode method_2_code 37 = .ok (.bipush 99, 2) := by decide +kernel
theorem d1_39 : decode method_2_code 39 = .ok (.castore, 1) := by decide +kernel
theorem d1_40 : decode method_2_code 40 = .ok (.dup, 1) := by decide +kernel
theorem d1_41 : decode method_2_code 41 = .ok (.bipush 7, 2) := by decide +kernel
theorem d1_43 : decode method_2_code 43 = .ok (.bipush 116, 2) := by decide +kernel
theorem d1_45 : decode method_2_code 45 = .ok (.castore, 1) := by decide +kernel
theorem d1_46 : decode method_2_code 46 = .ok (.dup, 1) := by decide +kernel
theorem d1_47 : decode method_2_code 47 = .ok (.bipush 8, 2) := by decide +kernel
theorem d1_49 : decode method_2_code 49 = .ok (.bipush 115, 2) := by decide +kernel
theorem d1_51 : decode method_2_code 51 = .ok (.castore, 1) := by decide +kernel
theorem d1_52 : decode method_2_code 52 = .ok (.areturn, 1) := by decide +kernel
theorem own_pn0 : plainName "com/example/linkfield/linkfield/core/HttpCheckUnansweredPinLaw" = true := by first | (simp [plainName, overriddenIn]; done) | decide +kernel
set_option maxRecDepth 65536 in
set_option maxHeartbeats 40000000 in
theorem rm_word (l : Launch) (Z : State) (a0 : Array Value) (hw : ∀ d ∈ tables_1, d.before a0 Z = true) (zc : Int32) (dA uA : Addr) (h0 : Heap) (n0 : Nat) (O0 : Old Z n0 h0) (hEL : EW Z a0 consts_1) (SC : Sta Z Z.heap "java/lang/String" "COMPACT_STRINGS" "Z" (.int zc)) (hz : ¬ zc = 0) (SD : Sta Z Z.heap "com/example/linkfield/linkfield/core/Verdict" "DEAD" "Lcom/example/linkfield/linkfield/core/Verdict;" (.ref dA)) (SU : Sta Z Z.heap "com/example/linkfield/linkfield/core/Verdict" "UNREACHABLE" "Lcom/example/linkfield/linkfield/core/Verdict;" (.ref uA))  :
    own_Met true l Z n0 consts_1 [] (⟨"com/example/linkfield/linkfield/core/HttpCheckUnansweredPinLaw", "word", "()[C"⟩ : MethodName) method_2_code 0 (some (.array .char)) [] ({ frames := 0, cells := 1, slots := 9, locals := 0 } : Room) #[] h0 (fun v h => ∃ (b : Addr) (k : ClassId), v = some (.ref b) ∧ n0 ≤ b ∧ h0.size ≤ b ∧ Keep h0 h [] ∧ Arv Z h b k .char 9 [(.int (114 : Int32)), (.int (101 : Int32)), (.int (100 : Int32)), (.int (105 : Int32)), (.int (114 : Int32)), (.int (101 : Int32)), (.int (99 : Int32)), (.int (116 : Int32)), (.int (115 : Int32))] (.int 0)) := by
  refine own_enter (a0 := a0) (own := "com/example/linkfield/linkfield/core/HttpCheckUnansweredPinLaw") (nm := "word") (Ls := #[]) own_pn0 O0 hEL (fun m => by first | (simp [entryFrame, mkF, argsToLocals, Value.category, maxLocals]; done) | rfl) ?_
  intro p e s m args below meth cde T0 Q hQ A0
  show own_Run p e below Q m T0 0 #[] []
  refine own_bipush (q := 2) A0 (9 : Int32) d1_0 rfl ?_
  refine own_newPv (q := 4) (ty := .char) (dv := .int 0) A0 rfl rfl (hw _ (List.mem_of_getElem? (i := 4) rfl)) d1_2 9 (by decide) (by decide) (by decide) (by decide) (by decide) ?_
  intro T1 h2 a3 k4 g5 g6 A7 E8 X9
  have K10 : Keep h0 h2 [] := (Keep.refl h0 []).ext E8
  have f11 : Arv Z h2 a3 k4 .char (9 : Int32) [(.int (0 : Int32)), (.int (0 : Int32)), (.int (0 : Int32)), (.int (0 : Int32)), (.int (0 : Int32)), (.int (0 : Int32)), (.int (0 : Int32)), (.int (0 : Int32)), (.int (0 : Int32))] (.int 0) := X9
  refine own_dup (q := 5) A7 d1_4 rfl ?_
  refine own_iconst (q := 6) A7 (0 : Int32) d1_5 rfl ?_
  refine own_bipush (q := 8) A7 (114 : Int32) d1_6 rfl ?_
  refine own_stCv (q := 9) A7 f11 0 (by decide) (by decide) (by decide) (Nat.le_of_ble_eq_true rfl) g6 (Or.inr (Or.inr (Or.inr (by obtain ⟨c, q, _⟩ := f11; exact ⟨c, _, q, by decide⟩)))) d1_8 ?_
  intro T12 h13 sl14 A15 W16 X17
  have K18 : Keep h0 h13 [] := K10.wr W16 (Or.inr (Nat.le_trans (Keep.refl h0 []).1 (Nat.le_of_eq g5)))
  have f19 : Arv Z h13 a3 k4 .char (9 : Int32) [(.int (114 : Int32)), (.int (0 : Int32)), (.int (0 : Int32)), (.int (0 : Int32)), (.int (0 : Int32)), (.int (0 : Int32)), (.int (0 : Int32)), (.int (0 : Int32)), (.int (0 : Int32))] (.int 0) := X17
  refine own_dup (q := 10) A15 d1_9 rfl ?_
  refine own_iconst (q := 11) A15 (1 : Int32) d1_10 rfl ?_
  refine own_bipush (q := 13) A15 (101 : Int32) d1_11 rfl ?_
  refine own_stCv (q := 14) A15 f19 1 (by decide) (by decide) (by decide) (Nat.le_of_ble_eq_true rfl) g6 (Or.inr (Or.inr (Or.inr (by obtain ⟨c, q, _⟩ := f19; exact ⟨c, _, q, by decide⟩)))) d1_13 ?_
  intro T20 h21 sl22 A23 W24 X25
  have K26 : Keep h0 h21 [] := K18.wr W24 (Or.inr (Nat.le_trans (Keep.refl h0 []).1 (Nat.le_of_eq g5)))
  have f27 : Arv Z h21 a3 k4 .char (9 : Int32) [(.int (114 : Int32)), (.int (101 : Int32)), (.int (0 : Int32)), (.int (0 : Int32)), (.int (0 : Int32)), (.int (0 : Int32)), (.int (0 : Int32)), (.int (0 : Int32)), (.int (0 : Int32))] (.int 0) := X25
  refine own_dup (q := 15) A23 d1_14 rfl ?_
  refine own_iconst (q := 16) A23 (2 : Int32) d1_15 rfl ?_
  refine own_bipush (q := 18) A23 (100 : Int32) d1_16 rfl ?_
  refine own_stCv (q := 19) A23 f27 2 (by decide) (by decide) (by decide) (Nat.le_of_ble_eq_true rfl) g6 (Or.inr (Or.inr (Or.inr (by obtain ⟨c, q, _⟩ := f27; exact ⟨c, _, q, by decide⟩)))) d1_18 ?_
  intro T28 h29 sl30 A31 W32 X33
  have K34 : Keep h0 h29 [] := K26.wr W32 (Or.inr (Nat.le_trans (Keep.refl h0 []).1 (Nat.le_of_eq g5)))
  have f35 : Arv Z h29 a3 k4 .char (9 : Int32) [(.int (114 : Int32)), (.int (101 : Int32)), (.int (100 : Int32)), (.int (0 : Int32)), (.int (0 : Int32)), (.int (0 : Int32)), (.int (0 : Int32)), (.int (0 : Int32)), (.int (0 : Int32))] (.int 0) := X33
  refine own_dup (q := 20) A31 d1_19 rfl ?_
  refine own_iconst (q := 21) A31 (3 : Int32) d1_20 rfl ?_
  refine own_bipush (q := 23) A31 (105 : Int32) d1_21 rfl ?_
  refine own_stCv (q := 24) A31 f35 3 (by decide) (by decide) (by decide) (Nat.le_of_ble_eq_true rfl) g6 (Or.inr (Or.inr (Or.inr (by obtain ⟨c, q, _⟩ := f35; exact ⟨c, _, q, by decide⟩)))) d1_23 ?_
  intro T36 h37 sl38 A39 W40 X41
  have K42 : Keep h0 h37 [] := K34.wr W40 (Or.inr (Nat.le_trans (Keep.refl h0 []).1 (Nat.le_of_eq g5)))
  have f43 : Arv Z h37 a3 k4 .char (9 : Int32) [(.int (114 : Int32)), (.int (101 : Int32)), (.int (100 : Int32)), (.int (105 : Int32)), (.int (0 : Int32)), (.int (0 : Int32)), (.int (0 : Int32)), (.int (0 : Int32)), (.int (0 : Int32))] (.int 0) := X41
  refine own_dup (q := 25) A39 d1_24 rfl ?_
  refine own_iconst (q := 26) A39 (4 : Int32) d1_25 rfl ?_
  refine own_bipush (q := 28) A39 (114 : Int32) d1_26 rfl ?_
  refine own_stCv (q := 29) A39 f43 4 (by decide) (by decide) (by decide) (Nat.le_of_ble_eq_true rfl) g6 (Or.inr (Or.inr (Or.inr (by obtain ⟨c, q, _⟩ := f43; exact ⟨c, _, q, by decide⟩)))) d1_28 ?_
  intro T44 h45 sl46 A47 W48 X49
  have K50 : Keep h0 h45 [] := K42.wr W48 (Or.inr (Nat.le_trans (Keep.refl h0 []).1 (Nat.le_of_eq g5)))
  have f51 : Arv Z h45 a3 k4 .char (9 : Int32) [(.int (114 : Int32)), (.int (101 : Int32)), (.int (100 : Int32)), (.int (105 : Int32)), (.int (114 : Int32)), (.int (0 : Int32)), (.int (0 : Int32)), (.int (0 : Int32)), (.int (0 : Int32))] (.int 0) := X49
  refine own_dup (q := 30) A47 d1_29 rfl ?_
  refine own_iconst (q := 31) A47 (5 : Int32) d1_30 rfl ?_
  refine own_bipush (q := 33) A47 (101 : Int32) d1_31 rfl ?_
  refine own_stCv (q := 34) A47 f51 5 (by decide) (by decide) (by decide) (Nat.le_of_ble_eq_true rfl) g6 (Or.inr (Or.inr (Or.inr (by obtain ⟨c, q, _⟩ := f51; exact ⟨c, _, q, by decide⟩)))) d1_33 ?_
  intro T52 h53 sl54 A55 W56 X57
  have K58 : Keep h0 h53 [] := K50.wr W56 (Or.inr (Nat.le_trans (Keep.refl h0 []).1 (Nat.le_of_eq g5)))
  have f59 : Arv Z h53 a3 k4 .char (9 : Int32) [(.int (114 : Int32)), (.int (101 : Int32)), (.int (100 : Int32)), (.int (105 : Int32)), (.int (114 : Int32)), (.int (101 : Int32)), (.int (0 : Int32)), (.int (0 : Int32)), (.int (0 : Int32))] (.int 0) := X57
  refine own_dup (q := 35) A55 d1_34 rfl ?_
  refine own_bipush (q := 37) A55 (6 : Int32) d1_35 rfl ?_
  refine own_bipush (q := 39) A55 (99 : Int32) d1_37 rfl ?_
  refine own_stCv (q := 40) A55 f59 6 (by decide) (by decide) (by decide) (Nat.le_of_ble_eq_true rfl) g6 (Or.inr (Or.inr (Or.inr (by obtain ⟨c, q, _⟩ := f59; exact ⟨c, _, q, by decide⟩)))) d1_39 ?_
  intro T60 h61 sl62 A63 W64 X65
  have K66 : Keep h0 h61 [] := K58.wr W64 (Or.inr (Nat.le_trans (Keep.refl h0 []).1 (Nat.le_of_eq g5)))
  have f67 : Arv Z h61 a3 k4 .char (9 : Int32) [(.int (114 : Int32)), (.int (101 : Int32)), (.int (100 : Int32)), (.int (105 : Int32)), (.int (114 : Int32)), (.int (101 : Int32)), (.int (99 : Int32)), (.int (0 : Int32)), (.int (0 : Int32))] (.int 0) := X65
  refine own_dup (q := 41) A63 d1_40 rfl ?_
  refine own_bipush (q := 43) A63 (7 : Int32) d1_41 rfl ?_
  refine own_bipush (q := 45) A63 (116 : Int32) d1_43 rfl ?_
  refine own_stCv (q := 46) A63 f67 7 (by decide) (by decide) (by decide) (Nat.le_of_ble_eq_true rfl) g6 (Or.inr (Or.inr (Or.inr (by obtain ⟨c, q, _⟩ := f67; exact ⟨c, _, q, by decide⟩)))) d1_45 ?_
  intro T68 h69 sl70 A71 W72 X73
  have K74 : Keep h0 h69 [] := K66.wr W72 (Or.inr (Nat.le_trans (Keep.refl h0 []).1 (Nat.le_of_eq g5)))
  have f75 : Arv Z h69 a3 k4 .char (9 : Int32) [(.int (114 : Int32)), (.int (101 : Int32)), (.int (100 : Int32)), (.int (105 : Int32)), (.int (114 : Int32)), (.int (101 : Int32)), (.int (99 : Int32)), (.int (116 : Int32)), (.int (0 : Int32))] (.int 0) := X73
  refine own_dup (q := 47) A71 d1_46 rfl ?_
  refine own_bipush (q := 49) A71 (8 : Int32) d1_47 rfl ?_
  refine own_bipush (q := 51) A71 (115 : Int32) d1_49 rfl ?_
  refine own_stCv (q := 52) A71 f75 8 (by decide) (by decide) (by decide) (Nat.le_of_ble_eq_true rfl) g6 (Or.inr (Or.inr (Or.inr (by obtain ⟨c, q, _⟩ := f75; exact ⟨c, _, q, by decide⟩)))) d1_51 ?_
  intro T76 h77 sl78 A79 W80 X81
  have K82 : Keep h0 h77 [] := K74.wr W80 (Or.inr (Nat.le_trans (Keep.refl h0 []).1 (Nat.le_of_eq g5)))
  have f83 : Arv Z h77 a3 k4 .char (9 : Int32) [(.int (114 : Int32)), (.int (101 : Int32)), (.int (100 : Int32)), (.int (105 : Int32)), (.int (114 : Int32)), (.int (101 : Int32)), (.int (99 : Int32)), (.int (116 : Int32)), (.int (115 : Int32))] (.int 0) := X81
  exact own_retA A79 hQ rfl rfl rfl d1_52 ⟨a3, _, rfl, g6, (Nat.le_trans (Keep.refl h0 []).1 (Nat.le_of_eq g5)), K82, f83⟩
theorem d18_0 : decode method_3_code 0 = .ok (.invokestatic 7, 3) := by decide +kernel
theorem d18_3 : decode method_3_code 3 = .ok (.astore_n 2, 1) := by decide +kernel
theorem d18_4 : decode method_3_code 4 = .ok (.iload_n 0, 1) := by decide +kernel
theorem d18_5 : decode method_3_code 5 = .ok (.newarray .char, 2) := by decide +kernel
theorem d18_7 : decode method_3_code 7 = .ok (.astore_n 3, 1) := by decide +kernel
theorem d18_8 : decode method_3_code 8 = .ok (.iload_n 0, 1) := by decide +kernel
theorem d18_9 : decode method_3_code 9 = .ok (.ifCond .le 9, 3) := by decide +kernel
theorem d18_12 : decode method_3_code 12 = .ok (.aload_n 3, 1) := by decide +kernel
theorem d18_13 : decode method_3_code 13 = .ok (.iconst 0, 1) := by decide +kernel
theorem d18_14 : decode method_3_code 14 = .ok (.aload_n 2, 1) := by decide +kernel
theorem d18_15 : decode method_3_code 15 = .ok (.iconst 0, 1) := by decide +kernel
theorem d18_16 : decode method_3_code 16 = .ok (.caload, 1) := by decide +kernel
theorem d18_17 : decode method_3_code 17 = .ok (.castore, 1) := by decide +kernel
theorem d18_18 : decode method_3_code 18 = .ok (.iload_n 0, 1) := by decide +kernel
theorem d18_19 : decode method_3_code 19 = .ok (.iconst 1, 1) := by decide +kernel
theorem d18_20 : decode method_3_code 20 = .ok (.if_icmp .le 9, 3) := by decide +kernel
theorem d18_23 : decode method_3_code 23 = .ok (.aload_n 3, 1) := by decide +kernel
theorem d18_24 : decode method_3_code 24 = .ok (.iconst 1, 1) := by decide +kernel
theorem d18_25 : decode method_3_code 25 = .ok (.aload_n 2, 1) := by decide +kernel
theorem d18_26 : decode method_3_code 26 = .ok (.iconst 1, 1) := by decide +kernel
theorem d18_27 : decode method_3_code 27 = .ok (.caload, 1) := by decide +kernel
theorem d18_28 : decode method_3_code 28 = .ok (.castore, 1) := by decide +kernel
theorem d18_29 : decode method_3_code 29 = .ok (.iload_n 0, 1) := by decide +kernel
theorem d18_30 : decode method_3_code 30 = .ok (.iconst 2, 1) := by decide +kernel
theorem d18_31 : decode method_3_code 31 = .ok (.if_icmp .le 9, 3) := by decide +kernel
theorem d18_34 : decode method_3_code 34 = .ok (.aload_n 3, 1) := by decide +kernel
theorem d18_35 : decode method_3_code 35 = .ok (.iconst 2, 1) := by decide +kernel
theorem d18_36 : decode method_3_code 36 = .ok (.aload_n 2, 1) := by decide +kernel
theorem d18_37 : decode method_3_code 37 = .ok (.iconst 2, 1) := by decide +kernel
theorem d18_38 : decode method_3_code 38 = .ok (.caload, 1) := by decide +kernel
theorem d18_39 : decode method_3_code 39 = .ok (.castore, 1) := by decide +kernel
theorem d18_40 : decode method_3_code 40 = .ok (.iload_n 0, 1) := by decide +kernel
theorem d18_41 : decode method_3_code 41 = .ok (.iconst 3, 1) := by decide +kernel
theorem d18_42 : decode method_3_code 42 = .ok (.if_icmp .le 9, 3) := by decide +kernel
theorem d18_45 : decode method_3_code 45 = .ok (.aload_n 3, 1) := by decide +kernel
theorem d18_46 : decode method_3_code 46 = .ok (.iconst 3, 1) := by decide +kernel
theorem d18_47 : decode method_3_code 47 = .ok (.aload_n 2, 1) := by decide +kernel
theorem d18_48 : decode method_3_code 48 = .ok (.iconst 3, 1) := by decide +kernel
theorem d18_49 : decode method_3_code 49 = .ok (.caload, 1) := by decide +kernel
theorem d18_50 : decode method_3_code 50 = .ok (.castore, 1) := by decide +kernel
theorem d18_51 : decode method_3_code 51 = .ok (.iload_n 0, 1) := by decide +kernel
theorem d18_52 : decode method_3_code 52 = .ok (.iconst 4, 1) := by decide +kernel
theorem d18_53 : decode method_3_code 53 = .ok (.if_icmp .le 9, 3) := by decide +kernel
theorem d18_56 : decode method_3_code 56 = .ok (.aload_n 3, 1) := by decide +kernel
theorem d18_57 : decode method_3_code 57 = .ok (.iconst 4, 1) := by decide +kernel
theorem d18_58 : decode method_3_code 58 = .ok (.aload_n 2, 1) := by decide +kernel
theorem d18_59 : decode method_3_code 59 = .ok (.iconst 4, 1) := by decide +kernel
theorem d18_60 : decode method_3_code 60 = .ok (.caload, 1) := by decide +kernel
theorem d18_61 : decode method_3_code 61 = .ok (.castore, 1) := by decide +kernel
theorem d18_62 : decode method_3_code 62 = .ok (.iload_n 0, 1) := by decide +kernel
theorem d18_63 : decode method_3_code 63 = .ok (.iconst 5, 1) := by decide +kernel
theorem d18_64 : decode method_3_code 64 = .ok (.if_icmp .le 9, 3) := by decide +kernel
theorem d18_67 : decode method_3_code 67 = .ok (.aload_n 3, 1) := by decide +kernel
theorem d18_68 : decode method_3_code 68 = .ok (.iconst 5, 1) := by decide +kernel
theorem d18_69 : decode method_3_code 69 = .ok (.aload_n 2, 1) := by decide +kernel
theorem d18_70 : decode method_3_code 70 = .ok (.iconst 5, 1) := by decide +kernel
theorem d18_71 : decode method_3_code 71 = .ok (.caload, 1) := by decide +kernel
theorem d18_72 : decode method_3_code 72 = .ok (.castore, 1) := by decide +kernel
theorem d18_73 : decode method_3_code 73 = .ok (.iload_n 0, 1) := by decide +kernel
theorem d18_74 : decode method_3_code 74 = .ok (.bipush 6, 2) := by decide +kernel
theorem d18_76 : decode method_3_code 76 = .ok (.if_icmp .le 11, 3) := by decide +kernel
theorem d18_79 : decode method_3_code 79 = .ok (.aload_n 3, 1) := by decide +kernel
theorem d18_80 : decode method_3_code 80 = .ok (.bipush 6, 2) := by decide +kernel
theorem d18_82 : decode method_3_code 82 = .ok (.aload_n 2, 1) := by decide +kernel
theorem d18_83 : decode method_3_code 83 = .ok (.bipush 6, 2) := by decide +kernel
theorem d18_85 : decode method_3_code 85 = .ok (.caload, 1) := by decide +kernel
theorem d18_86 : decode method_3_code 86 = .ok (.castore, 1) := by decide +kernel
theorem d18_87 : decode method_3_code 87 = .ok (.iload_n 0, 1) := by decide +kernel
theorem d18_88 : decode method_3_code 88 = .ok (.bipush 7, 2) := by decide +kernel
theorem d18_90 : decode method_3_code 90 = .ok (.if_icmp .le 11, 3) := by decide +kernel
theorem d18_93 : decode method_3_code 93 = .ok (.aload_n 3, 1) := by decide +kernel
theorem d18_94 : decode method_3_code 94 = .ok (.bipush 7, 2) := by decide +kernel
theorem d18_96 : decode method_3_code 96 = .ok (.aload_n 2, 1) := by decide +kernel
theorem d18_97 : decode method_3_code 97 = .ok (.bipush 7, 2) := by decide +kernel
theorem d18_99 : decode method_3_code 99 = .ok (.caload, 1) := by decide +kernel
theorem d18_100 : decode method_3_code 100 = .ok (.castore, 1) := by decide +kernel
theorem d18_101 : decode method_3_code 101 = .ok (.iload_n 0, 1) := by decide +kernel
theorem d18_102 : decode method_3_code 102 = .ok (.bipush 8, 2) := by decide +kernel
theorem d18_104 : decode method_3_code 104 = .ok (.if_icmp .le 11, 3) := by decide +kernel
theorem d18_107 : decode method_3_code 107 = .ok (.aload_n 3, 1) := by decide +kernel
theorem d18_108 : decode method_3_code 108 = .ok (.bipush 8, 2) := by decide +kernel
theorem d18_110 : decode method_3_code 110 = .ok (.aload_n 2, 1) := by decide +kernel
theorem d18_111 : decode method_3_code 111 = .ok (.bipush 8, 2) := by decide +kernel
theorem d18_113 : decode method_3_code 113 = .ok (.caload, 1) := by decide +kernel
theorem d18_114 : decode method_3_code 114 = .ok (.castore, 1) := by decide +kernel
theorem d18_115 : decode method_3_code 115 = .ok (.iload_n 0, 1) := by decide +kernel
theorem d18_116 : decode method_3_code 116 = .ok (.bipush 9, 2) := by decide +kernel
theorem d18_118 : decode method_3_code 118 = .ok (.if_icmp .le 8, 3) := by decide +kernel
theorem d18_121 : decode method_3_code 121 = .ok (.aload_n 3, 1) := by decide +kernel
theorem d18_122 : decode method_3_code 122 = .ok (.bipush 9, 2) := by decide +kernel
theorem d18_124 : decode method_3_code 124 = .ok (.iload_n 1, 1) := by decide +kernel
theorem d18_125 : decode method_3_code 125 = .ok (.castore, 1) := by decide +kernel
theorem d18_126 : decode method_3_code 126 = .ok (.aload_n 3, 1) := by decide +kernel
theorem d18_127 : decode method_3_code 127 = .ok (.areturn, 1) := by decide +kernel
set_option maxRecDepth 65536 in
set_option maxHeartbeats 40000000 in
theorem rm_pre0 (l : Launch) (Z : State) (a0 : Array Value) (hw : ∀ d ∈ tables_1, d.before a0 Z = true) (zc : Int32) (dA uA : Addr) (c : Int32) (h0 : Heap) (n0 : Nat) (O0 : Old Z n0 h0) (hEL : EW Z a0 consts_1) (SC : Sta Z Z.heap "java/lang/String" "COMPACT_STRINGS" "Z" (.int zc)) (hz : ¬ zc = 0) (SD : Sta Z Z.heap "com/example/linkfield/linkfield/core/Verdict" "DEAD" "Lcom/example/linkfield/linkfield/core/Verdict;" (.ref dA)) (SU : Sta Z Z.heap "com/example/linkfield/linkfield/core/Verdict" "UNREACHABLE" "Lcom/example/linkfield/linkfield/core/Verdict;" (.ref uA)) (hc0 : ¬ c < 0) (hc1 : ¬ (255 : Int32) < c) (hnc : nar .char c = c) :
    own_Met true l Z n0 consts_1 [] (⟨"com/example/linkfield/linkfield/core/HttpCheckUnansweredPinLaw", "prefix", "(IC)[C"⟩ : MethodName) method_3_code 4 (some (.array .char)) [] ({ frames := 1, cells := 2, slots := 9, locals := 11 } : Room) #[(.int (0 : Int32)), (.int c)] h0 (fun v h => ∃ (b : Addr) (k : ClassId), v = some (.ref b) ∧ n0 ≤ b ∧ h0.size ≤ b ∧ Keep h0 h [] ∧ Arv Z h b k .char 0 [] (.int 0)) := by
  refine own_enter (a0 := a0) (own := "com/example/linkfield/linkfield/core/HttpCheckUnansweredPinLaw") (nm := "prefix") (Ls := #[.val (.int (0 : Int32)), .val (.int c), .unset, .unset]) own_pn0 O0 hEL (fun m => by first | (simp [entryFrame, mkF, argsToLocals, Value.category, maxLocals]; done) | rfl) ?_
  intro p e s m args below meth cde T0 Q hQ A0
  show own_Run p e below Q m T0 0 #[.val (.int (0 : Int32)), .val (.int c), .unset, .unset] []
  refine own_staticW (q := 3) (W := 0) (argsL := []) (rest := []) A0 (hw _ (List.mem_of_getElem? (i := 0) rfl)) (hw _ (List.mem_of_getElem? (i := 1) rfl)) (hw _ (List.mem_of_getElem? (i := 2) rfl)) (hw _ (List.mem_of_getElem? (i := 3) rfl)) (by decide) (own_payW (rm_word l Z a0 hw zc dA uA  h0 n0 A0.old hEL SC hz SD SU ) (hw _ (List.mem_of_getElem? (i := 3) rfl)) (hw _ (List.mem_of_getElem? (i := 2) rfl)) (by decide) (by decide)) (fun _ z => nomatch z) (Nat.le_of_eq rfl) own_pd0 rfl rfl rfl d18_0 (by decide) (by decide) ?_
  rintro v7 T8 h9 A10 ⟨b1, k2, rfl, g3, g4, K5, V6⟩
  show own_Run p e below Q m T8 3 #[.val (.int (0 : Int32)), .val (.int c), .unset, .unset] [(.ref b1)]
  have K11 : Keep h0 h9 [] := (Keep.refl h0 []).trans K5 all0
  refine own_astoreN (q := 4) (L' := #[.val (.int (0 : Int32)), .val (.int c), .val (.ref b1), .unset]) A10 d18_3 rfl rfl ?_
  refine own_iloadN (q := 5) (v := (0 : Int32)) A10 d18_4 rfl ?_
  refine own_newPv (q := 7) (ty := .char) (dv := .int 0) A10 rfl rfl (hw _ (List.mem_of_getElem? (i := 4) rfl)) d18_5 0 (by decide) (by decide) (by decide) (by decide) (by decide) ?_
  intro T12 h13 a14 k15 g16 g17 A18 E19 X20
  have z21 : b1 ≠ a14 := Nat.ne_of_lt (Nat.lt_of_lt_of_le V6.lt (Nat.le_of_eq g16))
  have K22 : Keep h0 h13 [] := K11.ext E19
  have f23 : Arv Z h13 b1 k2 .char (9 : Int32) [(.int (114 : Int32)), (.int (101 : Int32)), (.int (100 : Int32)), (.int (105 : Int32)), (.int (114 : Int32)), (.int (101 : Int32)), (.int (99 : Int32)), (.int (116 : Int32)), (.int (115 : Int32))] (.int 0) := V6.ext E19
  have f24 : Arv Z h13 a14 k15 .char (0 : Int32) [] (.int 0) := X20
  refine own_astoreN (q := 8) (L' := #[.val (.int (0 : Int32)), .val (.int c), .val (.ref b1), .val (.ref a14)]) A18 d18_7 rfl rfl ?_
  refine own_iloadN (q := 9) (v := (0 : Int32)) A18 d18_8 rfl ?_
  refine own_ifcT (q := 18) A18 d18_9 (show ¬ (0 : Int32) < (0 : Int32) from by decide) ?_
  refine own_iloadN (q := 19) (v := (0 : Int32)) A18 d18_18 rfl ?_
  refine own_iconst (q := 20) A18 (1 : Int32) d18_19 rfl ?_
  refine own_icmpT (q := 29) A18 d18_20 (show ¬ (1 : Int32) < (0 : Int32) from by decide) ?_
  refine own_iloadN (q := 30) (v := (0 : Int32)) A18 d18_29 rfl ?_
  refine own_iconst (q := 31) A18 (2 : Int32) d18_30 rfl ?_
  refine own_icmpT (q := 40) A18 d18_31 (show ¬ (2 : Int32) < (0 : Int32) from by decide) ?_
  refine own_iloadN (q := 41) (v := (0 : Int32)) A18 d18_40 rfl ?_
  refine own_iconst (q := 42) A18 (3 : Int32) d18_41 rfl ?_
  refine own_icmpT (q := 51) A18 d18_42 (show ¬ (3 : Int32) < (0 : Int32) from by decide) ?_
  refine own_iloadN (q := 52) (v := (0 : Int32)) A18 d18_51 rfl ?_
  refine own_iconst (q := 53) A18 (4 : Int32) d18_52 rfl ?_
  refine own_icmpT (q := 62) A18 d18_53 (show ¬ (4 : Int32) < (0 : Int32) from by decide) ?_
  refine own_iloadN (q := 63) (v := (0 : Int32)) A18 d18_62 rfl ?_
  refine own_iconst (q := 64) A18 (5 : Int32) d18_63 rfl ?_
  refine own_icmpT (q := 73) A18 d18_64 (show ¬ (5 : Int32) < (0 : Int32) from by decide) ?_
  refine own_iloadN (q := 74) (v := (0 : Int32)) A18 d18_73 rfl ?_
  refine own_bipush (q := 76) A18 (6 : Int32) d18_74 rfl ?_
  refine own_icmpT (q := 87) A18 d18_76 (show ¬ (6 : Int32) < (0 : Int32) from by decide) ?_
  refine own_iloadN (q := 88) (v := (0 : Int32)) A18 d18_87 rfl ?_
  refine own_bipush (q := 90) A18 (7 : Int32) d18_88 rfl ?_
  refine own_icmpT (q := 101) A18 d18_90 (show ¬ (7 : Int32) < (0 : Int32) from by decide) ?_
  refine own_iloadN (q := 102) (v := (0 : Int32)) A18 d18_101 rfl ?_
  refine own_bipush (q := 104) A18 (8 : Int32) d18_102 rfl ?_
  refine own_icmpT (q := 115) A18 d18_104 (show ¬ (8 : Int32) < (0 : Int32) from by decide) ?_
  refine own_iloadN (q := 116) (v := (0 : Int32)) A18 d18_115 rfl ?_
  refine own_bipush (q := 118) A18 (9 : Int32) d18_116 rfl ?_
  refine own_icmpT (q := 126) A18 d18_118 (show ¬ (9 : Int32) < (0 : Int32) from by decide) ?_
  refine own_aloadN (q := 127) (v := (.ref a14)) A18 d18_126 rfl rfl ?_
  exact own_retA A18 hQ rfl rfl rfl d18_127 ⟨a14, _, rfl, g17, (Nat.le_trans K11.1 (Nat.le_of_eq g16)), K22, f24⟩
set_option maxRecDepth 65536 in
set_option maxHeartbeats 40000000 in
theorem rm_pre1 (l : Launch) (Z : State) (a0 : Array Value) (hw : ∀ d ∈ tables_1, d.before a0 Z = true) (zc : Int32) (dA uA : Addr) (c : Int32) (h0 : Heap) (n0 : Nat) (O0 : Old Z n0 h0) (hEL : EW Z a0 consts_1) (SC : Sta Z Z.heap "java/lang/String" "COMPACT_STRINGS" "Z" (.int zc)) (hz : ¬ zc = 0) (SD : Sta Z Z.heap "com/example/linkfield/linkfield/core/Verdict" "DEAD" "Lcom/example/linkfield/linkfield/core/Verdict;" (.ref dA)) (SU : Sta Z Z.heap "com/example/linkfield/linkfield/core/Verdict" "UNREACHABLE" "Lcom/example/linkfield/linkfield/core/Verdict;" (.ref uA)) (hc0 : ¬ c < 0) (hc1 : ¬ (255 : Int32) < c) (hnc : nar .char c = c) :
    own_Met true l Z n0 consts_1 [] (⟨"com/example/linkfield/linkfield/core/HttpCheckUnansweredPinLaw", "prefix", "(IC)[C"⟩ : MethodName) method_3_code 4 (some (.array .char)) [] ({ frames := 1, cells := 2, slots := 10, locals := 11 } : Room) #[(.int (1 : Int32)), (.int c)] h0 (fun v h => ∃ (b : Addr) (k : ClassId), v = some (.ref b) ∧ n0 ≤ b ∧ h0.size ≤ b ∧ Keep h0 h [] ∧ Arv Z h b k .char 1 [(.int (114 : Int32))] (.int 0)) := by
  refine own_enter (a0 := a0) (own := "com/example/linkfield/linkfield/core/HttpCheckUnansweredPinLaw") (nm := "prefix") (Ls := #[.val (.int (1 : Int32)), .val (.int c), .unset, .unset]) own_pn0 O0 hEL (fun m => by first | (simp [entryFrame, mkF, argsToLocals, Value.category, maxLocals]; done) | rfl) ?_
  intro p e s m args below meth cde T0 Q hQ A0
  show own_Run p e below Q m T0 0 #[.val (.int (1 : Int32)), .val (.int c), .unset, .unset] []
  refine own_staticW (q := 3) (W := 0) (argsL := []) (rest := []) A0 (hw _ (List.mem_of_getElem? (i := 0) rfl)) (hw _ (List.mem_of_getElem? (i := 1) rfl)) (hw _ (List.mem_of_getElem? (i := 2) rfl)) (hw _ (List.mem_of_getElem? (i := 3) rfl)) (by decide) (own_payW (rm_word l Z a0 hw zc dA uA  h0 n0 A0.old hEL SC hz SD SU ) (hw _ (List.mem_of_getElem? (i := 3) rfl)) (hw _ (List.mem_of_getElem? (i := 2) rfl)) (by decide) (by decide)) (fun _ z => nomatch z) (Nat.le_of_eq rfl) own_pd0 rfl rfl rfl d18_0 (by decide) (by decide) ?_
  rintro v7 T8 h9 A10 ⟨b1, k2, rfl, g3, g4, K5, V6⟩
  show own_Run p e below Q m T8 3 #[.val (.int (1 : Int32)), .val (.int c), .unset, .unset] [(.ref b1)]
  have K11 : Keep h0 h9 [] := (Keep.refl h0 []).trans K5 all0
  refine own_astoreN (q := 4) (L' := #[.val (.int (1 : Int32)), .val (.int c), .val (.ref b1), .unset]) A10 d18_3 rfl rfl ?_
  refine own_iloadN (q := 5) (v := (1 : Int32)) A10 d18_4 rfl ?_
  refine own_newPv (q := 7) (ty := .char) (dv := .int 0) A10 rfl rfl (hw _ (List.mem_of_getElem? (i := 4) rfl)) d18_5 1 (by decide) (by decide) (by decide) (by decide) (by decide) ?_
  intro T12 h13 a14 k15 g16 g17 A18 E19 X20
  have z21 : b1 ≠ a14 := Nat.ne_of_lt (Nat.lt_of_lt_of_le V6.lt (Nat.le_of_eq g16))
  have K22 : Keep h0 h13 [] := K11.ext E19
  have f23 : Arv Z h13 b1 k2 .char (9 : Int32) [(.int (114 : Int32)), (.int (101 : Int32)), (.int (100 : Int32)), (.int (105 : Int32)), (.int (114 : Int32)), (.int (101 : Int32)), (.int (99 : Int32)), (.int (116 : Int32)), (.int (115 : Int32))] (.int 0) := V6.ext E19
  have f24 : Arv Z h13 a14 k15 .char (1 : Int32) [(.int (0 : Int32))] (.int 0) := X20
  refine own_astoreN (q := 8) (L' := #[.val (.int (1 : Int32)), .val (.int c), .val (.ref b1), .val (.ref a14)]) A18 d18_7 rfl rfl ?_
  refine own_iloadN (q := 9) (v := (1 : Int32)) A18 d18_8 rfl ?_
  refine own_ifcF (q := 12) A18 d18_9 (show (0 : Int32) < (1 : Int32) from by decide) ?_
  refine own_aloadN (q := 13) (v := (.ref a14)) A18 d18_12 rfl rfl ?_
  refine own_iconst (q := 14) A18 (0 : Int32) d18_13 rfl ?_
  refine own_aloadN (q := 15) (v := (.ref b1)) A18 d18_14 rfl rfl ?_
  refine own_iconst (q := 16) A18 (0 : Int32) d18_15 rfl ?_
  refine own_caloadv (q := 17) (v := (.int (114 : Int32))) A18 f23 0 (by decide) (by decide) (by decide) rfl d18_16 ?_
  refine own_stCv (q := 18) A18 f24 0 (by decide) (by decide) (by decide) (Nat.le_of_ble_eq_true rfl) g17 (Or.inr (Or.inr (Or.inr (by obtain ⟨c, q, _⟩ := f24; exact ⟨c, _, q, by decide⟩)))) d18_17 ?_
  intro T25 h26 sl27 A28 W29 X30
  have K31 : Keep h0 h26 [] := K22.wr W29 (Or.inr (Nat.le_trans K11.1 (Nat.le_of_eq g16)))
  have f32 : Arv Z h26 b1 k2 .char (9 : Int32) [(.int (114 : Int32)), (.int (101 : Int32)), (.int (100 : Int32)), (.int (105 : Int32)), (.int (114 : Int32)), (.int (101 : Int32)), (.int (99 : Int32)), (.int (116 : Int32)), (.int (115 : Int32))] (.int 0) := f23.other W29 z21
  have f33 : Arv Z h26 a14 k15 .char (1 : Int32) [(.int (114 : Int32))] (.int 0) := X30
  refine own_iloadN (q := 19) (v := (1 : Int32)) A28 d18_18 rfl ?_
  refine own_iconst (q := 20) A28 (1 : Int32) d18_19 rfl ?_
  refine own_icmpT (q := 29) A28 d18_20 (show ¬ (1 : Int32) < (1 : Int32) from by decide) ?_
  refine own_iloadN (q := 30) (v := (1 : Int32)) A28 d18_29 rfl ?_
  refine own_iconst (q := 31) A28 (2 : Int32) d18_30 rfl ?_
  refine own_icmpT (q := 40) A28 d18_31 (show ¬ (2 : Int32) < (1 : Int32) from by decide) ?_
  refine own_iloadN (q := 41) (v := (1 : Int32)) A28 d18_40 rfl ?_
  refine own_iconst (q := 42) A28 (3 : Int32) d18_41 rfl ?_
  refine own_icmpT (q := 51) A28 d18_42 (show ¬ (3 : Int32) < (1 : Int32) from by decide) ?_
  refine own_iloadN (q := 52) (v := (1 : Int32)) A28 d18_51 rfl ?_
  refine own_iconst (q := 53) A28 (4 : Int32) d18_52 rfl ?_
  refine own_icmpT (q := 62) A28 d18_53 (show ¬ (4 : Int32) < (1 : Int32) from by decide) ?_
  refine own_iloadN (q := 63) (v := (1 : Int32)) A28 d18_62 rfl ?_
  refine own_iconst (q := 64) A28 (5 : Int32) d18_63 rfl ?_
  refine own_icmpT (q := 73) A28 d18_64 (show ¬ (5 : Int32) < (1 : Int32) from by decide) ?_
  refine own_iloadN (q := 74) (v := (1 : Int32)) A28 d18_73 rfl ?_
  refine own_bipush (q := 76) A28 (6 : Int32) d18_74 rfl ?_
  refine own_icmpT (q := 87) A28 d18_76 (show ¬ (6 : Int32) < (1 : Int32) from by decide) ?_
  refine own_iloadN (q := 88) (v := (1 : Int32)) A28 d18_87 rfl ?_
  refine own_bipush (q := 90) A28 (7 : Int32) d18_88 rfl ?_
  refine own_icmpT (q := 101) A28 d18_90 (show ¬ (7 : Int32) < (1 : Int32) from by decide) ?_
  refine own_iloadN (q := 102) (v := (1 : Int32)) A28 d18_101 rfl ?_
  refine own_bipush (q := 104) A28 (8 : Int32) d18_102 rfl ?_
  refine own_icmpT (q := 115) A28 d18_104 (show ¬ (8 : Int32) < (1 : Int32) from by decide) ?_
  refine own_iloadN (q := 116) (v := (1 : Int32)) A28 d18_115 rfl ?_
  refine own_bipush (q := 118) A28 (9 : Int32) d18_116 rfl ?_
  refine own_icmpT (q := 126) A28 d18_118 (show ¬ (9 : Int32) < (1 : Int32) from by decide) ?_
  refine own_aloadN (q := 127) (v := (.ref a14)) A28 d18_126 rfl rfl ?_
  exact own_retA A28 hQ rfl rfl rfl d18_127 ⟨a14, _, rfl, g17, (Nat.le_trans K11.1 (Nat.le_of_eq g16)), K31, f33⟩
set_option maxRecDepth 65536 in
set_option maxHeartbeats 40000000 in
theorem rm_pre2 (l : Launch) (Z : State) (a0 : Array Value) (hw : ∀ d ∈ tables_1, d.before a0 Z = true) (zc : Int32) (dA uA : Addr) (c : Int32) (h0 : Heap) (n0 : Nat) (O0 : Old Z n0 h0) (hEL : EW Z a0 consts_1) (SC : Sta Z Z.heap "java/lang/String" "COMPACT_STRINGS" "Z" (.int zc)) (hz : ¬ zc = 0) (SD : Sta Z Z.heap "com/example/linkfield/linkfield/core/Verdict" "DEAD" "Lcom/example/linkfield/linkfield/core/Verdict;" (.ref dA)) (SU : Sta Z Z.heap "com/example/linkfield/linkfield/core/Verdict" "UNREACHABLE" "Lcom/example/linkfield/linkfield/core/Verdict;" (.ref uA)) (hc0 : ¬ c < 0) (hc1 : ¬ (255 : Int32) < c) (hnc : nar .char c = c) :
    own_Met true l Z n0 consts_1 [] (⟨"com/example/linkfield/linkfield/core/HttpCheckUnansweredPinLaw", "prefix", "(IC)[C"⟩ : MethodName) method_3_code 4 (some (.array .char)) [] ({ frames := 1, cells := 2, slots := 11, locals := 11 } : Room) #[(.int (2 : Int32)), (.int c)] h0 (fun v h => ∃ (b : Addr) (k : ClassId), v = some (.ref b) ∧ n0 ≤ b ∧ h0.size ≤ b ∧ Keep h0 h [] ∧ Arv Z h b k .char 2 [(.int (114 : Int32)), (.int (101 : Int32))] (.int 0)) := by
  refine own_enter (a0 := a0) (own := "com/example/linkfield/linkfield/core/HttpCheckUnansweredPinLaw") (nm := "prefix") (Ls := #[.val (.int (2 : Int32)), .val (.int c), .unset, .unset]) own_pn0 O0 hEL (fun m => by first | (simp [entryFrame, mkF, argsToLocals, Value.category, maxLocals]; done) | rfl) ?_
  intro p e s m args below meth cde T0 Q hQ A0
  show own_Run p e below Q m T0 0 #[.val (.int (2 : Int32)), .val (.int c), .unset, .unset] []
  refine own_staticW (q := 3) (W := 0) (argsL := []) (rest := []) A0 (hw _ (List.mem_of_getElem? (i := 0) rfl)) (hw _ (List.mem_of_getElem? (i := 1) rfl)) (hw _ (List.mem_of_getElem? (i := 2) rfl)) (hw _ (List.mem_of_getElem? (i := 3) rfl)) (by decide) (own_payW (rm_word l Z a0 hw zc dA uA  h0 n0 A0.old hEL SC hz SD SU ) (hw _ (List.mem_of_getElem? (i := 3) rfl)) (hw _ (List.mem_of_getElem? (i := 2) rfl)) (by decide) (by decide)) (fun _ z => nomatch z) (Nat.le_of_eq rfl) own_pd0 rfl rfl rfl d18_0 (by decide) (by decide) ?_
  rintro v7 T8 h9 A10 ⟨b1, k2, rfl, g3, g4, K5, V6⟩
  show own_Run p e below Q m T8 3 #[.val (.int (2 : Int32)), .val (.int c), .unset, .unset] [(.ref b1)]
  have K11 : Keep h0 h9 [] := (Keep.refl h0 []).trans K5 all0
  refine own_astoreN (q := 4) (L' := #[.val (.int (2 : Int32)), .val (.int c), .val (.ref b1), .unset]) A10 d18_3 rfl rfl ?_
  refine own_iloadN (q := 5) (v := (2 : Int32)) A10 d18_4 rfl ?_
  refine own_newPv (q := 7) (ty := .char) (dv := .int 0) A10 rfl rfl (hw _ (List.mem_of_getElem? (i := 4) rfl)) d18_5 2 (by decide) (by decide) (by decide) (by decide) (by decide) ?_
  intro T12 h13 a14 k15 g16 g17 A18 E19 X20
  have z21 : b1 ≠ a14 := Nat.ne_of_lt (Nat.lt_of_lt_of_le V6.lt (Nat.le_of_eq g16))
  have K22 : Keep h0 h13 [] := K11.ext E19
  have f23 : Arv Z h13 b1 k2 .char (9 : Int32) [(.int (114 : Int32)), (.int (101 : Int32)), (.int (100 : Int32)), (.int (105 : Int32)), (.int (114 : Int32)), (.int (101 : Int32)), (.int (99 : Int32)), (.int (116 : Int32)), (.int (115 : Int32))] (.int 0) := V6.ext E19
  have f24 : Arv Z h13 a14 k15 .char (2 : Int32) [(.int (0 : Int32)), (.int (0 : Int32))] (.int 0) := X20
  refine own_astoreN (q := 8) (L' := #[.val (.int (2 : Int32)), .val (.int c), .val (.ref b1), .val (.ref a14)]) A18 d18_7 rfl rfl ?_
  refine own_iloadN (q := 9) (v := (2 : Int32)) A18 d18_8 rfl ?_
  refine own_ifcF (q := 12) A18 d18_9 (show (0 : Int32) < (2 : Int32) from by decide) ?_
  refine own_aloadN (q := 13) (v := (.ref a14)) A18 d18_12 rfl rfl ?_
  refine own_iconst (q := 14) A18 (0 : Int32) d18_13 rfl ?_
  refine own_aloadN (q := 15) (v := (.ref b1)) A18 d18_14 rfl rfl ?_
  refine own_iconst (q := 16) A18 (0 : Int32) d18_15 rfl ?_
  refine own_caloadv (q := 17) (v := (.int (114 : Int32))) A18 f23 0 (by decide) (by decide) (by decide) rfl d18_16 ?_
  refine own_stCv (q := 18) A18 f24 0 (by decide) (by decide) (by decide) (Nat.le_of_ble_eq_true rfl) g17 (Or.inr (Or.inr (Or.inr (by obtain ⟨c, q, _⟩ := f24; exact ⟨c, _, q, by decide⟩)))) d18_17 ?_
  intro T25 h26 sl27 A28 W29 X30
  have K31 : Keep h0 h26 [] := K22.wr W29 (Or.inr (Nat.le_trans K11.1 (Nat.le_of_eq g16)))
  have f32 : Arv Z h26 b1 k2 .char (9 : Int32) [(.int (114 : Int32)), (.int (101 : Int32)), (.int (100 : Int32)), (.int (105 : Int32)), (.int (114 : Int32)), (.int (101 : Int32)), (.int (99 : Int32)), (.int (116 : Int32)), (.int (115 : Int32))] (.int 0) := f23.other W29 z21
  have f33 : Arv Z h26 a14 k15 .char (2 : Int32) [(.int (114 : Int32)), (.int (0 : Int32))] (.int 0) := X30
  refine own_iloadN (q := 19) (v := (2 : Int32)) A28 d18_18 rfl ?_
  refine own_iconst (q := 20) A28 (1 : Int32) d18_19 rfl ?_
  refine own_icmpF (q := 23) A28 d18_20 (show (1 : Int32) < (2 : Int32) from by decide) ?_
  refine own_aloadN (q := 24) (v := (.ref a14)) A28 d18_23 rfl rfl ?_
  refine own_iconst (q := 25) A28 (1 : Int32) d18_24 rfl ?_
  refine own_aloadN (q := 26) (v := (.ref b1)) A28 d18_25 rfl rfl ?_
  refine own_iconst (q := 27) A28 (1 : Int32) d18_26 rfl ?_
  refine own_caloadv (q := 28) (v := (.int (101 : Int32))) A28 f32 1 (by decide) (by decide) (by decide) rfl d18_27 ?_
  refine own_stCv (q := 29) A28 f33 1 (by decide) (by decide) (by decide) (Nat.le_of_ble_eq_true rfl) g17 (Or.inr (Or.inr (Or.inr (by obtain ⟨c, q, _⟩ := f33; exact ⟨c, _, q, by decide⟩)))) d18_28 ?_
  intro T34 h35 sl36 A37 W38 X39
  have K40 : Keep h0 h35 [] := K31.wr W38 (Or.inr (Nat.le_trans K11.1 (Nat.le_of_eq g16)))
  have f41 : Arv Z h35 b1 k2 .char (9 : Int32) [(.int (114 : Int32)), (.int (101 : Int32)), (.int (100 : Int32)), (.int (105 : Int32)), (.int (114 : Int32)), (.int (101 : Int32)), (.int (99 : Int32)), (.int (116 : Int32)), (.int (115 : Int32))] (.int 0) := f32.other W38 z21
  have f42 : Arv Z h35 a14 k15 .char (2 : Int32) [(.int (114 : Int32)), (.int (101 : Int32))] (.int 0) := X39
  refine own_iloadN (q := 30) (v := (2 : Int32)) A37 d18_29 rfl ?_
  refine own_iconst (q := 31) A37 (2 : Int32) d18_30 rfl ?_
  refine own_icmpT (q := 40) A37 d18_31 (show ¬ (2 : Int32) < (2 : Int32) from by decide) ?_
  refine own_iloadN (q := 41) (v := (2 : Int32)) A37 d18_40 rfl ?_
  refine own_iconst (q := 42) A37 (3 : Int32) d18_41 rfl ?_
  refine own_icmpT (q := 51) A37 d18_42 (show ¬ (3 : Int32) < (2 : Int32) from by decide) ?_
  refine own_iloadN (q := 52) (v := (2 : Int32)) A37 d18_51 rfl ?_
  refine own_iconst (q := 53) A37 (4 : Int32) d18_52 rfl ?_
  refine own_icmpT (q := 62) A37 d18_53 (show ¬ (4 : Int32) < (2 : Int32) from by decide) ?_
  refine own_iloadN (q := 63) (v := (2 : Int32)) A37 d18_62 rfl ?_
  refine own_iconst (q := 64) A37 (5 : Int32) d18_63 rfl ?_
  refine own_icmpT (q := 73) A37 d18_64 (show ¬ (5 : Int32) < (2 : Int32) from by decide) ?_
  refine own_iloadN (q := 74) (v := (2 : Int32)) A37 d18_73 rfl ?_
  refine own_bipush (q := 76) A37 (6 : Int32) d18_74 rfl ?_
  refine own_icmpT (q := 87) A37 d18_76 (show ¬ (6 : Int32) < (2 : Int32) from by decide) ?_
  refine own_iloadN (q := 88) (v := (2 : Int32)) A37 d18_87 rfl ?_
  refine own_bipush (q := 90) A37 (7 : Int32) d18_88 rfl ?_
  refine own_icmpT (q := 101) A37 d18_90 (show ¬ (7 : Int32) < (2 : Int32) from by decide) ?_
  refine own_iloadN (q := 102) (v := (2 : Int32)) A37 d18_101 rfl ?_
  refine own_bipush (q := 104) A37 (8 : Int32) d18_102 rfl ?_
  refine own_icmpT (q := 115) A37 d18_104 (show ¬ (8 : Int32) < (2 : Int32) from by decide) ?_
  refine own_iloadN (q := 116) (v := (2 : Int32)) A37 d18_115 rfl ?_
  refine own_bipush (q := 118) A37 (9 : Int32) d18_116 rfl ?_
  refine own_icmpT (q := 126) A37 d18_118 (show ¬ (9 : Int32) < (2 : Int32) from by decide) ?_
  refine own_aloadN (q := 127) (v := (.ref a14)) A37 d18_126 rfl rfl ?_
  exact own_retA A37 hQ rfl rfl rfl d18_127 ⟨a14, _, rfl, g17, (Nat.le_trans K11.1 (Nat.le_of_eq g16)), K40, f42⟩
set_option maxRecDepth 65536 in
set_option maxHeartbeats 40000000 in
theorem rm_pre3 (l : Launch) (Z : State) (a0 : Array Value) (hw : ∀ d ∈ tables_1, d.before a0 Z = true) (zc : Int32) (dA uA : Addr) (c : Int32) (h0 : Heap) (n0 : Nat) (O0 : Old Z n0 h0) (hEL : EW Z a0 consts_1) (SC : Sta Z Z.heap "java/lang/String" "COMPACT_STRINGS" "Z" (.int zc)) (hz : ¬ zc = 0) (SD : Sta Z Z.heap "com/example/linkfield/linkfield/core/Verdict" "DEAD" "Lcom/example/linkfield/linkfield/core/Verdict;" (.ref dA)) (SU : Sta Z Z.heap "com/example/linkfield/linkfield/core/Verdict" "UNREACHABLE" "Lcom/example/linkfield/linkfield/core/Verdict;" (.ref uA)) (hc0 : ¬ c < 0) (hc1 : ¬ (255 : Int32) < c) (hnc : nar .char c = c) :
    own_Met true l Z n0 consts_1 [] (⟨"com/example/linkfield/linkfield/core/HttpCheckUnansweredPinLaw", "prefix", "(IC)[C"⟩ : MethodName) method_3_code 4 (some (.array .char)) [] ({ frames := 1, cells := 2, slots := 12, locals := 11 } : Room) #[(.int (3 : Int32)), (.int c)] h0 (fun v h => ∃ (b : Addr) (k : ClassId), v = some (.ref b) ∧ n0 ≤ b ∧ h0.size ≤ b ∧ Keep h0 h [] ∧ Arv Z h b k .char 3 [(.int (114 : Int32)), (.int (101 : Int32)), (.int (100 : Int32))] (.int 0)) := by
  refine own_enter (a0 := a0) (own := "com/example/linkfield/linkfield/core/HttpCheckUnansweredPinLaw") (nm := "prefix") (Ls := #[.val (.int (3 : Int32)), .val (.int c), .unset, .unset]) own_pn0 O0 hEL (fun m => by first | (simp [entryFrame, mkF, argsToLocals, Value.category, maxLocals]; done) | rfl) ?_
  intro p e s m args below meth cde T0 Q hQ A0
  show own_Run p e below Q m T0 0 #[.val (.int (3 : Int32)), .val (.int c), .unset, .unset] []
  refine own_staticW (q := 3) (W := 0) (argsL := []) (rest := []) A0 (hw _ (List.mem_of_getElem? (i := 0) rfl)) (hw _ (List.mem_of_getElem? (i := 1) rfl)) (hw _ (List.mem_of_getElem? (i := 2) rfl)) (hw _ (List.mem_of_getElem? (i := 3) rfl)) (by decide) (own_payW (rm_word l Z a0 hw zc dA uA  h0 n0 A0.old hEL SC hz SD SU ) (hw _ (List.mem_of_getElem? (i := 3) rfl)) (hw _ (List.mem_of_getElem? (i := 2) rfl)) (by decide) (by decide)) (fun _ z => nomatch z) (Nat.le_of_eq rfl) own_pd0 rfl rfl rfl d18_0 (by decide) (by decide) ?_
  rintro v7 T8 h9 A10 ⟨b1, k2, rfl, g3, g4, K5, V6⟩
  show own_Run p e below Q m T8 3 #[.val (.int (3 : Int32)), .val (.int c), .unset, .unset] [(.ref b1)]
  have K11 : Keep h0 h9 [] := (Keep.refl h0 []).trans K5 all0
  refine own_astoreN (q := 4) (L' := #[.val (.int (3 : Int32)), .val (.int c), .val (.ref b1), .unset]) A10 d18_3 rfl rfl ?_
  refine own_iloadN (q := 5) (v := (3 : Int32)) A10 d18_4 rfl ?_
  refine own_newPv (q := 7) (ty := .char) (dv := .int 0) A10 rfl rfl (hw _ (List.mem_of_getElem? (i := 4) rfl)) d18_5 3 (by decide) (by decide) (by decide) (by decide) (by decide) ?_
  intro T12 h13 a14 k15 g16 g17 A18 E19 X20
  have z21 : b1 ≠ a14 := Nat.ne_of_lt (Nat.lt_of_lt_of_le V6.lt (Nat.le_of_eq g16))
  have K22 : Keep h0 h13 [] := K11.ext E19
  have f23 : Arv Z h13 b1 k2 .char (9 : Int32) [(.int (114 : Int32)), (.int (101 : Int32)), (.int (100 : Int32)), (.int (105 : Int32)), (.int (114 : Int32)), (.int (101 : Int32)), (.int (99 : Int32)), (.int (116 : Int32)), (.int (115 : Int32))] (.int 0) := V6.ext E19
  have f24 : Arv Z h13 a14 k15 .char (3 : Int32) [(.int (0 : Int32)), (.int (0 : Int32)), (.int (0 : Int32))] (.int 0) := X20
  refine own_astoreN (q := 8) (L' := #[.val (.int (3 : Int32)), .val (.int c), .val (.ref b1), .val (.ref a14)]) A18 d18_7 rfl rfl ?_
  refine own_iloadN (q := 9) (v := (3 : Int32)) A18 d18_8 rfl ?_
  refine own_ifcF (q := 12) A18 d18_9 (show (0 : Int32) < (3 : Int32) from by decide) ?_
  refine own_aloadN (q := 13) (v := (.ref a14)) A18 d18_12 rfl rfl ?_
  refine own_iconst (q := 14) A18 (0 : Int32) d18_13 rfl ?_
  refine own_aloadN (q := 15) (v := (.ref b1)) A18 d18_14 rfl rfl ?_
  refine own_iconst (q := 16) A18 (0 : Int32) d18_15 rfl ?_
  refine own_caloadv (q := 17) (v := (.int (114 : Int32))) A18 f23 0 (by decide) (by decide) (by decide) rfl d18_16 ?_
  refine own_stCv (q := 18) A18 f24 0 (by decide) (by decide) (by decide) (Nat.le_of_ble_eq_true rfl) g17 (Or.inr (Or.inr (Or.inr (by obtain ⟨c, q, _⟩ := f24; exact ⟨c, _, q, by decide⟩)))) d18_17 ?_
  intro T25 h26 sl27 A28 W29 X30
  have K31 : Keep h0 h26 [] := K22.wr W29 (Or.inr (Nat.le_trans K11.1 (Nat.le_of_eq g16)))
  have f32 : Arv Z h26 b1 k2 .char (9 : Int32) [(.int (114 : Int32)), (.int (101 : Int32)), (.int (100 : Int32)), (.int (105 : Int32)), (.int (114 : Int32)), (.int (101 : Int32)), (.int (99 : Int32)), (.int (116 : Int32)), (.int (115 : Int32))] (.int 0) := f23.other W29 z21
  have f33 : Arv Z h26 a14 k15 .char (3 : Int32) [(.int (114 : Int32)), (.int (0 : Int32)), (.int (0 : Int32))] (.int 0) := X30
  refine own_iloadN (q := 19) (v := (3 : Int32)) A28 d18_18 rfl ?_
  refine own_iconst (q := 20) A28 (1 : Int32) d18_19 rfl ?_
  refine own_icmpF (q := 23) A28 d18_20 (show (1 : Int32) < (3 : Int32) from by decide) ?_
  refine own_aloadN (q := 24) (v := (.ref a14)) A28 d18_23 rfl rfl ?_
  refine own_iconst (q := 25) A28 (1 : Int32) d18_24 rfl ?_
  refine own_aloadN (q := 26) (v := (.ref b1)) A28 d18_25 rfl rfl ?_
  refine own_iconst (q := 27) A28 (1 : Int32) d18_26 rfl ?_
  refine own_caloadv (q := 28) (v := (.int (101 : Int32))) A28 f32 1 (by decide) (by decide) (by decide) rfl d18_27 ?_
  refine own_stCv (q := 29) A28 f33 1 (by decide) (by decide) (by decide) (Nat.le_of_ble_eq_true rfl) g17 (Or.inr (Or.inr (Or.inr (by obtain ⟨c, q, _⟩ := f33; exact ⟨c, _, q, by decide⟩)))) d18_28 ?_
  intro T34 h35 sl36 A37 W38 X39
  have K40 : Keep h0 h35 [] := K31.wr W38 (Or.inr (Nat.le_trans K11.1 (Nat.le_of_eq g16)))
  have f41 : Arv Z h35 b1 k2 .char (9 : Int32) [(.int (114 : Int32)), (.int (101 : Int32)), (.int (100 : Int32)), (.int (105 : Int32)), (.int (114 : Int32)), (.int (101 : Int32)), (.int (99 : Int32)), (.int (116 : Int32)), (.int (115 : Int32))] (.int 0) := f32.other W38 z21
  have f42 : Arv Z h35 a14 k15 .char (3 : Int32) [(.int (114 : Int32)), (.int (101 : Int32)), (.int (0 : Int32))] (.int 0) := X39
  refine own_iloadN (q := 30) (v := (3 : Int32)) A37 d18_29 rfl ?_
  refine own_iconst (q := 31) A37 (2 : Int32) d18_30 rfl ?_
  refine own_icmpF (q := 34) A37 d18_31 (show (2 : Int32) < (3 : Int32) from by decide) ?_
  refine own_aloadN (q := 35) (v := (.ref a14)) A37 d18_34 rfl rfl ?_
  refine own_iconst (q := 36) A37 (2 : Int32) d18_35 rfl ?_
  refine own_aloadN (q := 37) (v := (.ref b1)) A37 d18_36 rfl rfl ?_
  refine own_iconst (q := 38) A37 (2 : Int32) d18_37 rfl ?_
  refine own_caloadv (q := 39) (v := (.int (100 : Int32))) A37 f41 2 (by decide) (by decide) (by decide) rfl d18_38 ?_
  refine own_stCv (q := 40) A37 f42 2 (by decide) (by decide) (by decide) (Nat.le_of_ble_eq_true rfl) g17 (Or.inr (Or.inr (Or.inr (by obtain ⟨c, q, _⟩ := f42; exact ⟨c, _, q, by decide⟩)))) d18_39 ?_
  intro T43 h44 sl45 A46 W47 X48
  have K49 : Keep h0 h44 [] := K40.wr W47 (Or.inr (Nat.le_trans K11.1 (Nat.le_of_eq g16)))
  have f50 : Arv Z h44 b1 k2 .char (9 : Int32) [(.int (114 : Int32)), (.int (101 : Int32)), (.int (100 : Int32)), (.int (105 : Int32)), (.int (114 : Int32)), (.int (101 : Int32)), (.int (99 : Int32)), (.int (116 : Int32)), (.int (115 : Int32))] (.int 0) := f41.other W47 z21
  have f51 : Arv Z h44 a14 k15 .char (3 : Int32) [(.int (114 : Int32)), (.int (101 : Int32)), (.int (100 : Int32))] (.int 0) := X48
  refine own_iloadN (q := 41) (v := (3 : Int32)) A46 d18_40 rfl ?_
  refine own_iconst (q := 42) A46 (3 : Int32) d18_41 rfl ?_
  refine own_icmpT (q := 51) A46 d18_42 (show ¬ (3 : Int32) < (3 : Int32) from by decide) ?_
  refine own_iloadN (q := 52) (v := (3 : Int32)) A46 d18_51 rfl ?_
  refine own_iconst (q := 53) A46 (4 : Int32) d18_52 rfl ?_
  refine own_icmpT (q := 62) A46 d18_53 (show ¬ (4 : Int32) < (3 : Int32) from by decide) ?_
  refine own_iloadN (q := 63) (v := (3 : Int32)) A46 d18_62 rfl ?_
  refine own_iconst (q := 64) A46 (5 : Int32) d18_63 rfl ?_
  refine own_icmpT (q := 73) A46 d18_64 (show ¬ (5 : Int32) < (3 : Int32) from by decide) ?_
  refine own_iloadN (q := 74) (v := (3 : Int32)) A46 d18_73 rfl ?_
  refine own_bipush (q := 76) A46 (6 : Int32) d18_74 rfl ?_
  refine own_icmpT (q := 87) A46 d18_76 (show ¬ (6 : Int32) < (3 : Int32) from by decide) ?_
  refine own_iloadN (q := 88) (v := (3 : Int32)) A46 d18_87 rfl ?_
  refine own_bipush (q := 90) A46 (7 : Int32) d18_88 rfl ?_
  refine own_icmpT (q := 101) A46 d18_90 (show ¬ (7 : Int32) < (3 : Int32) from by decide) ?_
  refine own_iloadN (q := 102) (v := (3 : Int32)) A46 d18_101 rfl ?_
  refine own_bipush (q := 104) A46 (8 : Int32) d18_102 rfl ?_
  refine own_icmpT (q := 115) A46 d18_104 (show ¬ (8 : Int32) < (3 : Int32) from by decide) ?_
  refine own_iloadN (q := 116) (v := (3 : Int32)) A46 d18_115 rfl ?_
  refine own_bipush (q := 118) A46 (9 : Int32) d18_116 rfl ?_
  refine own_icmpT (q := 126) A46 d18_118 (show ¬ (9 : Int32) < (3 : Int32) from by decide) ?_
  refine own_aloadN (q := 127) (v := (.ref a14)) A46 d18_126 rfl rfl ?_
  exact own_retA A46 hQ rfl rfl rfl d18_127 ⟨a14, _, rfl, g17, (Nat.le_trans K11.1 (Nat.le_of_eq g16)), K49, f51⟩
set_option maxRecDepth 65536 in
set_option maxHeartbeats 40000000 in
theorem rm_pre4 (l : Launch) (Z : State) (a0 : Array Value) (hw : ∀ d ∈ tables_1, d.before a0 Z = true) (zc : Int32) (dA uA : Addr) (c : Int32) (h0 : Heap) (n0 : Nat) (O0 : Old Z n0 h0) (hEL : EW Z a0 consts_1) (SC : Sta Z Z.heap "java/lang/String" "COMPACT_STRINGS" "Z" (.int zc)) (hz : ¬ zc = 0) (SD : Sta Z Z.heap "com/example/linkfield/linkfield/core/Verdict" "DEAD" "Lcom/example/linkfield/linkfield/core/Verdict;" (.ref dA)) (SU : Sta Z Z.heap "com/example/linkfield/linkfield/core/Verdict" "UNREACHABLE" "Lcom/example/linkfield/linkfield/core/Verdict;" (.ref uA)) (hc0 : ¬ c < 0) (hc1 : ¬ (255 : Int32) < c) (hnc : nar .char c = c) :
    own_Met true l Z n0 consts_1 [] (⟨"com/example/linkfield/linkfield/core/HttpCheckUnansweredPinLaw", "prefix", "(IC)[C"⟩ : MethodName) method_3_code 4 (some (.array .char)) [] ({ frames := 1, cells := 2, slots := 13, locals := 11 } : Room) #[(.int (4 : Int32)), (.int c)] h0 (fun v h => ∃ (b : Addr) (k : ClassId), v = some (.ref b) ∧ n0 ≤ b ∧ h0.size ≤ b ∧ Keep h0 h [] ∧ Arv Z h b k .char 4 [(.int (114 : Int32)), (.int (101 : Int32)), (.int (100 : Int32)), (.int (105 : Int32))] (.int 0)) := by
  refine own_enter (a0 := a0) (own := "com/example/linkfield/linkfield/core/HttpCheckUnansweredPinLaw") (nm := "prefix") (Ls := #[.val (.int (4 : Int32)), .val (.int c), .unset, .unset]) own_pn0 O0 hEL (fun m => by first | (simp [entryFrame, mkF, argsToLocals, Value.category, maxLocals]; done) | rfl) ?_
  intro p e s m args below meth cde T0 Q hQ A0
  show own_Run p e below Q m T0 0 #[.val (.int (4 : Int32)), .val (.int c), .unset, .unset] []
  refine own_staticW (q := 3) (W := 0) (argsL := []) (rest := []) A0 (hw _ (List.mem_of_getElem? (i := 0) rfl)) (hw _ (List.mem_of_getElem? (i := 1) rfl)) (hw _ (List.mem_of_getElem? (i := 2) rfl)) (hw _ (List.mem_of_getElem? (i := 3) rfl)) (by decide) (own_payW (rm_word l Z a0 hw zc dA uA  h0 n0 A0.old hEL SC hz SD SU ) (hw _ (List.mem_of_getElem? (i := 3) rfl)) (hw _ (List.mem_of_getElem? (i := 2) rfl)) (by decide) (by decide)) (fun _ z => nomatch z) (Nat.le_of_eq rfl) own_pd0 rfl rfl rfl d18_0 (by decide) (by decide) ?_
  rintro v7 T8 h9 A10 ⟨b1, k2, rfl, g3, g4, K5, V6⟩
  show own_Run p e below Q m T8 3 #[.val (.int (4 : Int32)), .val (.int c), .unset, .unset] [(.ref b1)]
  have K11 : Keep h0 h9 [] := (Keep.refl h0 []).trans K5 all0
  refine own_astoreN (q := 4) (L' := #[.val (.int (4 : Int32)), .val (.int c), .val (.ref b1), .unset]) A10 d18_3 rfl rfl ?_
  refine own_iloadN (q := 5) (v := (4 : Int32)) A10 d18_4 rfl ?_
  refine own_newPv (q := 7) (ty := .char) (dv := .int 0) A10 rfl rfl (hw _ (List.mem_of_getElem? (i := 4) rfl)) d18_5 4 (by decide) (by decide) (by decide) (by decide) (by decide) ?_
  intro T12 h13 a14 k15 g16 g17 A18 E19 X20
  have z21 : b1 ≠ a14 := Nat.ne_of_lt (Nat.lt_of_lt_of_le V6.lt (Nat.le_of_eq g16))
  have K22 : Keep h0 h13 [] := K11.ext E19
  have f23 : Arv Z h13 b1 k2 .char (9 : Int32) [(.int (114 : Int32)), (.int (101 : Int32)), (.int (100 : Int32)), (.int (105 : Int32)), (.int (114 : Int32)), (.int (101 : Int32)), (.int (99 : Int32)), (.int (116 : Int32)), (.int (115 : Int32))] (.int 0) := V6.ext E19
  have f24 : Arv Z h13 a14 k15 .char (4 : Int32) [(.int (0 : Int32)), (.int (0 : Int32)), (.int (0 : Int32)), (.int (0 : Int32))] (.int 0) := X20
  refine own_astoreN (q := 8) (L' := #[.val (.int (4 : Int32)), .val (.int c), .val (.ref b1), .val (.ref a14)]) A18 d18_7 rfl rfl ?_
  refine own_iloadN (q := 9) (v := (4 : Int32)) A18 d18_8 rfl ?_
  refine own_ifcF (q := 12) A18 d18_9 (show (0 : Int32) < (4 : Int32) from by decide) ?_
  refine own_aloadN (q := 13) (v := (.ref a14)) A18 d18_12 rfl rfl ?_
  refine own_iconst (q := 14) A18 (0 : Int32) d18_13 rfl ?_
  refine own_aloadN (q := 15) (v := (.ref b1)) A18 d18_14 rfl rfl ?_
  refine own_iconst (q := 16) A18 (0 : Int32) d18_15 rfl ?_
  refine own_caloadv (q := 17) (v := (.int (114 : Int32))) A18 f23 0 (by decide) (by decide) (by decide) rfl d18_16 ?_
  refine own_stCv (q := 18) A18 f24 0 (by decide) (by decide) (by decide) (Nat.le_of_ble_eq_true rfl) g17 (Or.inr (Or.inr (Or.inr (by obtain ⟨c, q, _⟩ := f24; exact ⟨c, _, q, by decide⟩)))) d18_17 ?_
  intro T25 h26 sl27 A28 W29 X30
  have K31 : Keep h0 h26 [] := K22.wr W29 (Or.inr (Nat.le_trans K11.1 (Nat.le_of_eq g16)))
  have f32 : Arv Z h26 b1 k2 .char (9 : Int32) [(.int (114 : Int32)), (.int (101 : Int32)), (.int (100 : Int32)), (.int (105 : Int32)), (.int (114 : Int32)), (.int (101 : Int32)), (.int (99 : Int32)), (.int (116 : Int32)), (.int (115 : Int32))] (.int 0) := f23.other W29 z21
  have f33 : Arv Z h26 a14 k15 .char (4 : Int32) [(.int (114 : Int32)), (.int (0 : Int32)), (.int (0 : Int32)), (.int (0 : Int32))] (.int 0) := X30
  refine own_iloadN (q := 19) (v := (4 : Int32)) A28 d18_18 rfl ?_
  refine own_iconst (q := 20) A28 (1 : Int32) d18_19 rfl ?_
  refine own_icmpF (q := 23) A28 d18_20 (show (1 : Int32) < (4 : Int32) from by decide) ?_
  refine own_aloadN (q := 24) (v := (.ref a14)) A28 d18_23 rfl rfl ?_
  refine own_iconst (q := 25) A28 (1 : Int32) d18_24 rfl ?_
  refine own_aloadN (q := 26) (v := (.ref b1)) A28 d18_25 rfl rfl ?_
  refine own_iconst (q := 27) A28 (1 : Int32) d18_26 rfl ?_
  refine own_caloadv (q := 28) (v := (.int (101 : Int32))) A28 f32 1 (by decide) (by decide) (by decide) rfl d18_27 ?_
  refine own_stCv (q := 29) A28 f33 1 (by decide) (by decide) (by decide) (Nat.le_of_ble_eq_true rfl) g17 (Or.inr (Or.inr (Or.inr (by obtain ⟨c, q, _⟩ := f33; exact ⟨c, _, q, by decide⟩)))) d18_28 ?_
  intro T34 h35 sl36 A37 W38 X39
  have K40 : Keep h0 h35 [] := K31.wr W38 (Or.inr (Nat.le_trans K11.1 (Nat.le_of_eq g16)))
  have f41 : Arv Z h35 b1 k2 .char (9 : Int32) [(.int (114 : Int32)), (.int (101 : Int32)), (.int (100 : Int32)), (.int (105 : Int32)), (.int (114 : Int32)), (.int (101 : Int32)), (.int (99 : Int32)), (.int (116 : Int32)), (.int (115 : Int32))] (.int 0) := f32.other W38 z21
  have f42 : Arv Z h35 a14 k15 .char (4 : Int32) [(.int (114 : Int32)), (.int (101 : Int32)), (.int (0 : Int32)), (.int (0 : Int32))] (.int 0) := X39
  refine own_iloadN (q := 30) (v := (4 : Int32)) A37 d18_29 rfl ?_
  refine own_iconst (q := 31) A37 (2 : Int32) d18_30 rfl ?_
  refine own_icmpF (q := 34) A37 d18_31 (show (2 : Int32) < (4 : Int32) from by decide) ?_
  refine own_aloadN (q := 35) (v := (.ref a14)) A37 d18_34 rfl rfl ?_
  refine own_iconst (q := 36) A37 (2 : Int32) d18_35 rfl ?_
  refine own_aloadN (q := 37) (v := (.ref b1)) A37 d18_36 rfl rfl ?_
  refine own_iconst (q := 38) A37 (2 : Int32) d18_37 rfl ?_
  refine own_caloadv (q := 39) (v := (.int (100 : Int32))) A37 f41 2 (by decide) (by decide) (by decide) rfl d18_38 ?_
  refine own_stCv (q := 40) A37 f42 2 (by decide) (by decide) (by decide) (Nat.le_of_ble_eq_true rfl) g17 (Or.inr (Or.inr (Or.inr (by obtain ⟨c, q, _⟩ := f42; exact ⟨c, _, q, by decide⟩)))) d18_39 ?_
  intro T43 h44 sl45 A46 W47 X48
  have K49 : Keep h0 h44 [] := K40.wr W47 (Or.inr (Nat.le_trans K11.1 (Nat.le_of_eq g16)))
  have f50 : Arv Z h44 b1 k2 .char (9 : Int32) [(.int (114 : Int32)), (.int (101 : Int32)), (.int (100 : Int32)), (.int (105 : Int32)), (.int (114 : Int32)), (.int (101 : Int32)), (.int (99 : Int32)), (.int (116 : Int32)), (.int (115 : Int32))] (.int 0) := f41.other W47 z21
  have f51 : Arv Z h44 a14 k15 .char (4 : Int32) [(.int (114 : Int32)), (.int (101 : Int32)), (.int (100 : Int32)), (.int (0 : Int32))] (.int 0) := X48
  refine own_iloadN (q := 41) (v := (4 : Int32)) A46 d18_40 rfl ?_
  refine own_iconst (q := 42) A46 (3 : Int32) d18_41 rfl ?_
  refine own_icmpF (q := 45) A46 d18_42 (show (3 : Int32) < (4 : Int32) from by decide) ?_
  refine own_aloadN (q := 46) (v := (.ref a14)) A46 d18_45 rfl rfl ?_
  refine own_iconst (q := 47) A46 (3 : Int32) d18_46 rfl ?_
  refine own_aloadN (q := 48) (v := (.ref b1)) A46 d18_47 rfl rfl ?_
  refine own_iconst (q := 49) A46 (3 : Int32) d18_48 rfl ?_
  refine own_caloadv (q := 50) (v := (.int (105 : Int32))) A46 f50 3 (by decide) (by decide) (by decide) rfl d18_49 ?_
  refine own_stCv (q := 51) A46 f51 3 (by decide) (by decide) (by decide) (Nat.le_of_ble_eq_true rfl) g17 (Or.inr (Or.inr (Or.inr (by obtain ⟨c, q, _⟩ := f51; exact ⟨c, _, q, by decide⟩)))) d18_50 ?_
  intro T52 h53 sl54 A55 W56 X57
  have K58 : Keep h0 h53 [] := K49.wr W56 (Or.inr (Nat.le_trans K11.1 (Nat.le_of_eq g16)))
  have f59 : Arv Z h53 b1 k2 .char (9 : Int32) [(.int (114 : Int32)), (.int (101 : Int32)), (.int (100 : Int32)), (.int (105 : Int32)), (.int (114 : Int32)), (.int (101 : Int32)), (.int (99 : Int32)), (.int (116 : Int32)), (.int (115 : Int32))] (.int 0) := f50.other W56 z21
  have f60 : Arv Z h53 a14 k15 .char (4 : Int32) [(.int (114 : Int32)), (.int (101 : Int32)), (.int (100 : Int32)), (.int (105 : Int32))] (.int 0) := X57
  refine own_iloadN (q := 52) (v := (4 : Int32)) A55 d18_51 rfl ?_
  refine own_iconst (q := 53) A55 (4 : Int32) d18_52 rfl ?_
  refine own_icmpT (q := 62) A55 d18_53 (show ¬ (4 : Int32) < (4 : Int32) from by decide) ?_
  refine own_iloadN (q := 63) (v := (4 : Int32)) A55 d18_62 rfl ?_
  refine own_iconst (q := 64) A55 (5 : Int32) d18_63 rfl ?_
  refine own_icmpT (q := 73) A55 d18_64 (show ¬ (5 : Int32) < (4 : Int32) from by decide) ?_
  refine own_iloadN (q := 74) (v := (4 : Int32)) A55 d18_73 rfl ?_
  refine own_bipush (q := 76) A55 (6 : Int32) d18_74 rfl ?_
  refine own_icmpT (q := 87) A55 d18_76 (show ¬ (6 : Int32) < (4 : Int32) from by decide) ?_
  refine own_iloadN (q := 88) (v := (4 : Int32)) A55 d18_87 rfl ?_
  refine own_bipush (q := 90) A55 (7 : Int32) d18_88 rfl ?_
  refine own_icmpT (q := 101) A55 d18_90 (show ¬ (7 : Int32) < (4 : Int32) from by decide) ?_
  refine own_iloadN (q := 102) (v := (4 : Int32)) A55 d18_101 rfl ?_
  refine own_bipush (q := 104) A55 (8 : Int32) d18_102 rfl ?_
  refine own_icmpT (q := 115) A55 d18_104 (show ¬ (8 : Int32) < (4 : Int32) from by decide) ?_
  refine own_iloadN (q := 116) (v := (4 : Int32)) A55 d18_115 rfl ?_
  refine own_bipush (q := 118) A55 (9 : Int32) d18_116 rfl ?_
  refine own_icmpT (q := 126) A55 d18_118 (show ¬ (9 : Int32) < (4 : Int32) from by decide) ?_
  refine own_aloadN (q := 127) (v := (.ref a14)) A55 d18_126 rfl rfl ?_
  exact own_retA A55 hQ rfl rfl rfl d18_127 ⟨a14, _, rfl, g17, (Nat.le_trans K11.1 (Nat.le_of_eq g16)), K58, f60⟩
set_option maxRecDepth 65536 in
set_option maxHeartbeats 40000000 in
theorem rm_pre5 (l : Launch) (Z : State) (a0 : Array Value) (hw : ∀ d ∈ tables_1, d.before a0 Z = true) (zc : Int32) (dA uA : Addr) (c : Int32) (h0 : Heap) (n0 : Nat) (O0 : Old Z n0 h0) (hEL : EW Z a0 consts_1) (SC : Sta Z Z.heap "java/lang/String" "COMPACT_STRINGS" "Z" (.int zc)) (hz : ¬ zc = 0) (SD : Sta Z Z.heap "com/example/linkfield/linkfield/core/Verdict" "DEAD" "Lcom/example/linkfield/linkfield/core/Verdict;" (.ref dA)) (SU : Sta Z Z.heap "com/example/linkfield/linkfield/core/Verdict" "UNREACHABLE" "Lcom/example/linkfield/linkfield/core/Verdict;" (.ref uA)) (hc0 : ¬ c < 0) (hc1 : ¬ (255 : Int32) < c) (hnc : nar .char c = c) :
    own_Met true l Z n0 consts_1 [] (⟨"com/example/linkfield/linkfield/core/HttpCheckUnansweredPinLaw", "prefix", "(IC)[C"⟩ : MethodName) method_3_code 4 (some (.array .char)) [] ({ frames := 1, cells := 2, slots := 14, locals := 11 } : Room) #[(.int (5 : Int32)), (.int c)] h0 (fun v h => ∃ (b : Addr) (k : ClassId), v = some (.ref b) ∧ n0 ≤ b ∧ h0.size ≤ b ∧ Keep h0 h [] ∧ Arv Z h b k .char 5 [(.int (114 : Int32)), (.int (101 : Int32)), (.int (100 : Int32)), (.int (105 : Int32)), (.int (114 : Int32))] (.int 0)) := by
  refine own_enter (a0 := a0) (own := "com/example/linkfield/linkfield/core/HttpCheckUnansweredPinLaw") (nm := "prefix") (Ls := #[.val (.int (5 : Int32)), .val (.int c), .unset, .unset]) own_pn0 O0 hEL (fun m => by first | (simp [entryFrame, mkF, argsToLocals, Value.category, maxLocals]; done) | rfl) ?_
  intro p e s m args below meth cde T0 Q hQ A0
  show own_Run p e below Q m T0 0 #[.val (.int (5 : Int32)), .val (.int c), .unset, .unset] []
  refine own_staticW (q := 3) (W := 0) (argsL := []) (rest := []) A0 (hw _ (List.mem_of_getElem? (i := 0) rfl)) (hw _ (List.mem_of_getElem? (i := 1) rfl)) (hw _ (List.mem_of_getElem? (i := 2) rfl)) (hw _ (List.mem_of_getElem? (i := 3) rfl)) (by decide) (own_payW (rm_word l Z a0 hw zc dA uA  h0 n0 A0.old hEL SC hz SD SU ) (hw _ (List.mem_of_getElem? (i := 3) rfl)) (hw _ (List.mem_of_getElem? (i := 2) rfl)) (by decide) (by decide)) (fun _ z => nomatch z) (Nat.le_of_eq rfl) own_pd0 rfl rfl rfl d18_0 (by decide) (by decide) ?_
  rintro v7 T8 h9 A10 ⟨b1, k2, rfl, g3, g4, K5, V6⟩
  show own_Run p e below Q m T8 3 #[.val (.int (5 : Int32)), .val (.int c), .unset, .unset] [(.ref b1)]
  have K11 : Keep h0 h9 [] := (Keep.refl h0 []).trans K5 all0
  refine own_astoreN (q := 4) (L' := #[.val (.int (5 : Int32)), .val (.int c), .val (.ref b1), .unset]) A10 d18_3 rfl rfl ?_
  refine own_iloadN (q := 5) (v := (5 : Int32)) A10 d18_4 rfl ?_
  refine own_newPv (q := 7) (ty := .char) (dv := .int 0) A10 rfl rfl (hw _ (List.mem_of_getElem? (i := 4) rfl)) d18_5 5 (by decide) (by decide) (by decide) (by decide) (by decide) ?_
  intro T12 h13 a14 k15 g16 g17 A18 E19 X20
  have z21 : b1 ≠ a14 := Nat.ne_of_lt (Nat.lt_of_lt_of_le V6.lt (Nat.le_of_eq g16))
  have K22 : Keep h0 h13 [] := K11.ext E19
  have f23 : Arv Z h13 b1 k2 .char (9 : Int32) [(.int (114 : Int32)), (.int (101 : Int32)), (.int (100 : Int32)), (.int (105 : Int32)), (.int (114 : Int32)), (.int (101 : Int32)), (.int (99 : Int32)), (.int (116 : Int32)), (.int (115 : Int32))] (.int 0) := V6.ext E19
  have f24 : Arv Z h13 a14 k15 .char (5 : Int32) [(.int (0 : Int32)), (.int (0 : Int32)), (.int (0 : Int32)), (.int (0 : Int32)), (.int (0 : Int32))] (.int 0) := X20
  refine own_astoreN (q := 8) (L' := #[.val (.int (5 : Int32)), .val (.int c), .val (.ref b1), .val (.ref a14)]) A18 d18_7 rfl rfl ?_
  refine own_iloadN (q := 9) (v := (5 : Int32)) A18 d18_8 rfl ?_
  refine own_ifcF (q := 12) A18 d18_9 (show (0 : Int32) < (5 : Int32) from by decide) ?_
  refine own_aloadN (q := 13) (v := (.ref a14)) A18 d18_12 rfl rfl ?_
  refine own_iconst (q := 14) A18 (0 : Int32) d18_13 rfl ?_
  refine own_aloadN (q := 15) (v := (.ref b1)) A18 d18_14 rfl rfl ?_
  refine own_iconst (q := 16) A18 (0 : Int32) d18_15 rfl ?_
  refine own_caloadv (q := 17) (v := (.int (114 : Int32))) A18 f23 0 (by decide) (by decide) (by decide) rfl d18_16 ?_
  refine own_stCv (q := 18) A18 f24 0 (by decide) (by decide) (by decide) (Nat.le_of_ble_eq_true rfl) g17 (Or.inr (Or.inr (Or.inr (by obtain ⟨c, q, _⟩ := f24; exact ⟨c, _, q, by decide⟩)))) d18_17 ?_
  intro T25 h26 sl27 A28 W29 X30
  have K31 : Keep h0 h26 [] := K22.wr W29 (Or.inr (Nat.le_trans K11.1 (Nat.le_of_eq g16)))
  have f32 : Arv Z h26 b1 k2 .char (9 : Int32) [(.int (114 : Int32)), (.int (101 : Int32)), (.int (100 : Int32)), (.int (105 : Int32)), (.int (114 : Int32)), (.int (101 : Int32)), (.int (99 : Int32)), (.int (116 : Int32)), (.int (115 : Int32))] (.int 0) := f23.other W29 z21
  have f33 : Arv Z h26 a14 k15 .char (5 : Int32) [(.int (114 : Int32)), (.int (0 : Int32)), (.int (0 : Int32)), (.int (0 : Int32)), (.int (0 : Int32))] (.int 0) := X30
  refine own_iloadN (q := 19) (v := (5 : Int32)) A28 d18_18 rfl ?_
  refine own_iconst (q := 20) A28 (1 : Int32) d18_19 rfl ?_
  refine own_icmpF (q := 23) A28 d18_20 (show (1 : Int32) < (5 : Int32) from by decide) ?_
  refine own_aloadN (q := 24) (v := (.ref a14)) A28 d18_23 rfl rfl ?_
  refine own_iconst (q := 25) A28 (1 : Int32) d18_24 rfl ?_
  refine own_aloadN (q := 26) (v := (.ref b1)) A28 d18_25 rfl rfl ?_
  refine own_iconst (q := 27) A28 (1 : Int32) d18_26 rfl ?_
  refine own_caloadv (q := 28) (v := (.int (101 : Int32))) A28 f32 1 (by decide) (by decide) (by decide) rfl d18_27 ?_
  refine own_stCv (q := 29) A28 f33 1 (by decide) (by decide) (by decide) (Nat.le_of_ble_eq_true rfl) g17 (Or.inr (Or.inr (Or.inr (by obtain ⟨c, q, _⟩ := f33; exact ⟨c, _, q, by decide⟩)))) d18_28 ?_
  intro T34 h35 sl36 A37 W38 X39
  have K40 : Keep h0 h35 [] := K31.wr W38 (Or.inr (Nat.le_trans K11.1 (Nat.le_of_eq g16)))
  have f41 : Arv Z h35 b1 k2 .char (9 : Int32) [(.int (114 : Int32)), (.int (101 : Int32)), (.int (100 : Int32)), (.int (105 : Int32)), (.int (114 : Int32)), (.int (101 : Int32)), (.int (99 : Int32)), (.int (116 : Int32)), (.int (115 : Int32))] (.int 0) := f32.other W38 z21
  have f42 : Arv Z h35 a14 k15 .char (5 : Int32) [(.int (114 : Int32)), (.int (101 : Int32)), (.int (0 : Int32)), (.int (0 : Int32)), (.int (0 : Int32))] (.int 0) := X39
  refine own_iloadN (q := 30) (v := (5 : Int32)) A37 d18_29 rfl ?_
  refine own_iconst (q := 31) A37 (2 : Int32) d18_30 rfl ?_
  refine own_icmpF (q := 34) A37 d18_31 (show (2 : Int32) < (5 : Int32) from by decide) ?_
  refine own_aloadN (q := 35) (v := (.ref a14)) A37 d18_34 rfl rfl ?_
  refine own_iconst (q := 36) A37 (2 : Int32) d18_35 rfl ?_
  refine own_aloadN (q := 37) (v := (.ref b1)) A37 d18_36 rfl rfl ?_
  refine own_iconst (q := 38) A37 (2 : Int32) d18_37 rfl ?_
  refine own_caloadv (q := 39) (v := (.int (100 : Int32))) A37 f41 2 (by decide) (by decide) (by decide) rfl d18_38 ?_
  refine own_stCv (q := 40) A37 f42 2 (by decide) (by decide) (by decide) (Nat.le_of_ble_eq_true rfl) g17 (Or.inr (Or.inr (Or.inr (by obtain ⟨c, q, _⟩ := f42; exact ⟨c, _, q, by decide⟩)))) d18_39 ?_
  intro T43 h44 sl45 A46 W47 X48
  have K49 : Keep h0 h44 [] := K40.wr W47 (Or.inr (Nat.le_trans K11.1 (Nat.le_of_eq g16)))
  have f50 : Arv Z h44 b1 k2 .char (9 : Int32) [(.int (114 : Int32)), (.int (101 : Int32)), (.int (100 : Int32)), (.int (105 : Int32)), (.int (114 : Int32)), (.int (101 : Int32)), (.int (99 : Int32)), (.int (116 : Int32)), (.int (115 : Int32))] (.int 0) := f41.other W47 z21
  have f51 : Arv Z h44 a14 k15 .char (5 : Int32) [(.int (114 : Int32)), (.int (101 : Int32)), (.int (100 : Int32)), (.int (0 : Int32)), (.int (0 : Int32))] (.int 0) := X48
  refine own_iloadN (q := 41) (v := (5 : Int32)) A46 d18_40 rfl ?_
  refine own_iconst (q := 42) A46 (3 : Int32) d18_41 rfl ?_
  refine own_icmpF (q := 45) A46 d18_42 (show (3 : Int32) < (5 : Int32) from by decide) ?_
  refine own_aloadN (q := 46) (v := (.ref a14)) A46 d18_45 rfl rfl ?_
  refine own_iconst (q := 47) A46 (3 : Int32) d18_46 rfl ?_
  refine own_aloadN (q := 48) (v := (.ref b1)) A46 d18_47 rfl rfl ?_
  refine own_iconst (q := 49) A46 (3 : Int32) d18_48 rfl ?_
  refine own_caloadv (q := 50) (v := (.int (105 : Int32))) A46 f50 3 (by decide) (by decide) (by decide) rfl d18_49 ?_
  refine own_stCv (q := 51) A46 f51 3 (by decide) (by decide) (by decide) (Nat.le_of_ble_eq_true rfl) g17 (Or.inr (Or.inr (Or.inr (by obtain ⟨c, q, _⟩ := f51; exact ⟨c, _, q, by decide⟩)))) d18_50 ?_
  intro T52 h53 sl54 A55 W56 X57
  have K58 : Keep h0 h53 [] := K49.wr W56 (Or.inr (Nat.le_trans K11.1 (Nat.le_of_eq g16)))
  have f59 : Arv Z h53 b1 k2 .char (9 : Int32) [(.int (114 : Int32)), (.int (101 : Int32)), (.int (100 : Int32)), (.int (105 : Int32)), (.int (114 : Int32)), (.int (101 : Int32)), (.int (99 : Int32)), (.int (116 : Int32)), (.int (115 : Int32))] (.int 0) := f50.other W56 z21
  have f60 : Arv Z h53 a14 k15 .char (5 : Int32) [(.int (114 : Int32)), (.int (101 : Int32)), (.int (100 : Int32)), (.int (105 : Int32)), (.int (0 : Int32))] (.int 0) := X57
  refine own_iloadN (q := 52) (v := (5 : Int32)) A55 d18_51 rfl ?_
  refine own_iconst (q := 53) A55 (4 : Int32) d18_52 rfl ?_
  refine own_icmpF (q := 56) A55 d18_53 (show (4 : Int32) < (5 : Int32) from by decide) ?_
  refine own_aloadN (q := 57) (v := (.ref a14)) A55 d18_56 rfl rfl ?_
  refine own_iconst (q := 58) A55 (4 : Int32) d18_57 rfl ?_
  refine own_aloadN (q := 59) (v := (.ref b1)) A55 d18_58 rfl rfl ?_
  refine own_iconst (q := 60) A55 (4 : Int32) d18_59 rfl ?_
  refine own_caloadv (q := 61) (v := (.int (114 : Int32))) A55 f59 4 (by decide) (by decide) (by decide) rfl d18_60 ?_
  refine own_stCv (q := 62) A55 f60 4 (by decide) (by decide) (by decide) (Nat.le_of_ble_eq_true rfl) g17 (Or.inr (Or.inr (Or.inr (by obtain ⟨c, q, _⟩ := f60; exact ⟨c, _, q, by decide⟩)))) d18_61 ?_
  intro T61 h62 sl63 A64 W65 X66
  have K67 : Keep h0 h62 [] := K58.wr W65 (Or.inr (Nat.le_trans K11.1 (Nat.le_of_eq g16)))
  have f68 : Arv Z h62 b1 k2 .char (9 : Int32) [(.int (114 : Int32)), (.int (101 : Int32)), (.int (100 : Int32)), (.int (105 : Int32)), (.int (114 : Int32)), (.int (101 : Int32)), (.int (99 : Int32)), (.int (116 : Int32)), (.int (115 : Int32))] (.int 0) := f59.other W65 z21
  have f69 : Arv Z h62 a14 k15 .char (5 : Int32) [(.int (114 : Int32)), (.int (101 : Int32)), (.int (100 : Int32)), (.int (105 : Int32)), (.int (114 : Int32))] (.int 0) := X66
  refine own_iloadN (q := 63) (v := (5 : Int32)) A64 d18_62 rfl ?_
  refine own_iconst (q := 64) A64 (5 : Int32) d18_63 rfl ?_
  refine own_icmpT (q := 73) A64 d18_64 (show ¬ (5 : Int32) < (5 : Int32) from by decide) ?_
  refine own_iloadN (q := 74) (v := (5 : Int32)) A64 d18_73 rfl ?_
  refine own_bipush (q := 76) A64 (6 : Int32) d18_74 rfl ?_
  refine own_icmpT (q := 87) A64 d18_76 (show ¬ (6 : Int32) < (5 : Int32) from by decide) ?_
  refine own_iloadN (q := 88) (v := (5 : Int32)) A64 d18_87 rfl ?_
  refine own_bipush (q := 90) A64 (7 : Int32) d18_88 rfl ?_
  refine own_icmpT (q := 101) A64 d18_90 (show ¬ (7 : Int32) < (5 : Int32) from by decide) ?_
  refine own_iloadN (q := 102) (v := (5 : Int32)) A64 d18_101 rfl ?_
  refine own_bipush (q := 104) A64 (8 : Int32) d18_102 rfl ?_
  refine own_icmpT (q := 115) A64 d18_104 (show ¬ (8 : Int32) < (5 : Int32) from by decide) ?_
  refine own_iloadN (q := 116) (v := (5 : Int32)) A64 d18_115 rfl ?_
  refine own_bipush (q := 118) A64 (9 : Int32) d18_116 rfl ?_
  refine own_icmpT (q := 126) A64 d18_118 (show ¬ (9 : Int32) < (5 : Int32) from by decide) ?_
  refine own_aloadN (q := 127) (v := (.ref a14)) A64 d18_126 rfl rfl ?_
  exact own_retA A64 hQ rfl rfl rfl d18_127 ⟨a14, _, rfl, g17, (Nat.le_trans K11.1 (Nat.le_of_eq g16)), K67, f69⟩
set_option maxRecDepth 65536 in
set_option maxHeartbeats 40000000 in
theorem rm_pre6 (l : Launch) (Z : State) (a0 : Array Value) (hw : ∀ d ∈ tables_1, d.before a0 Z = true) (zc : Int32) (dA uA : Addr) (c : Int32) (h0 : Heap) (n0 : Nat) (O0 : Old Z n0 h0) (hEL : EW Z a0 consts_1) (SC : Sta Z Z.heap "java/lang/String" "COMPACT_STRINGS" "Z" (.int zc)) (hz : ¬ zc = 0) (SD : Sta Z Z.heap "com/example/linkfield/linkfield/core/Verdict" "DEAD" "Lcom/example/linkfield/linkfield/core/Verdict;" (.ref dA)) (SU : Sta Z Z.heap "com/example/linkfield/linkfield/core/Verdict" "UNREACHABLE" "Lcom/example/linkfield/linkfield/core/Verdict;" (.ref uA)) (hc0 : ¬ c < 0) (hc1 : ¬ (255 : Int32) < c) (hnc : nar .char c = c) :
    own_Met true l Z n0 consts_1 [] (⟨"com/example/linkfield/linkfield/core/HttpCheckUnansweredPinLaw", "prefix", "(IC)[C"⟩ : MethodName) method_3_code 4 (some (.array .char)) [] ({ frames := 1, cells := 2, slots := 15, locals := 11 } : Room) #[(.int (6 : Int32)), (.int c)] h0 (fun v h => ∃ (b : Addr) (k : ClassId), v = some (.ref b) ∧ n0 ≤ b ∧ h0.size ≤ b ∧ Keep h0 h [] ∧ Arv Z h b k .char 6 [(.int (114 : Int32)), (.int (101 : Int32)), (.int (100 : Int32)), (.int (105 : Int32)), (.int (114 : Int32)), (.int (101 : Int32))] (.int 0)) := by
  refine own_enter (a0 := a0) (own := "com/example/linkfield/linkfield/core/HttpCheckUnansweredPinLaw") (nm := "prefix") (Ls := #[.val (.int (6 : Int32)), .val (.int c), .unset, .unset]) own_pn0 O0 hEL (fun m => by first | (simp [entryFrame, mkF, argsToLocals, Value.category, maxLocals]; done) | rfl) ?_
  intro p e s m args below meth cde T0 Q hQ A0
  show own_Run p e below Q m T0 0 #[.val (.int (6 : Int32)), .val (.int c), .unset, .unset] []
  refine own_staticW (q := 3) (W := 0) (argsL := []) (rest := []) A0 (hw _ (List.mem_of_getElem? (i := 0) rfl)) (hw _ (List.mem_of_getElem? (i := 1) rfl)) (hw _ (List.mem_of_getElem? (i := 2) rfl)) (hw _ (List.mem_of_getElem? (i := 3) rfl)) (by decide) (own_payW (rm_word l Z a0 hw zc dA uA  h0 n0 A0.old hEL SC hz SD SU ) (hw _ (List.mem_of_getElem? (i := 3) rfl)) (hw _ (List.mem_of_getElem? (i := 2) rfl)) (by decide) (by decide)) (fun _ z => nomatch z) (Nat.le_of_eq rfl) own_pd0 rfl rfl rfl d18_0 (by decide) (by decide) ?_
  rintro v7 T8 h9 A10 ⟨b1, k2, rfl, g3, g4, K5, V6⟩
  show own_Run p e below Q m T8 3 #[.val (.int (6 : Int32)), .val (.int c), .unset, .unset] [(.ref b1)]
  have K11 : Keep h0 h9 [] := (Keep.refl h0 []).trans K5 all0
  refine own_astoreN (q := 4) (L' := #[.val (.int (6 : Int32)), .val (.int c), .val (.ref b1), .unset]) A10 d18_3 rfl rfl ?_
  refine own_iloadN (q := 5) (v := (6 : Int32)) A10 d18_4 rfl ?_
  refine own_newPv (q := 7) (ty := .char) (dv := .int 0) A10 rfl rfl (hw _ (List.mem_of_getElem? (i := 4) rfl)) d18_5 6 (by decide) (by decide) (by decide) (by decide) (by decide) ?_
  intro T12 h13 a14 k15 g16 g17 A18 E19 X20
  have z21 : b1 ≠ a14 := Nat.ne_of_lt (Nat.lt_of_lt_of_le V6.lt (Nat.le_of_eq g16))
  have K22 : Keep h0 h13 [] := K11.ext E19
  have f23 : Arv Z h13 b1 k2 .char (9 : Int32) [(.int (114 : Int32)), (.int (101 : Int32)), (.int (100 : Int32)), (.int (105 : Int32)), (.int (114 : Int32)), (.int (101 : Int32)), (.int (99 : Int32)), (.int (116 : Int32)), (.int (115 : Int32))] (.int 0) := V6.ext E19
  have f24 : Arv Z h13 a14 k15 .char (6 : Int32) [(.int (0 : Int32)), (.int (0 : Int32)), (.int (0 : Int32)), (.int (0 : Int32)), (.int (0 : Int32)), (.int (0 : Int32))] (.int 0) := X20
  refine own_astoreN (q := 8) (L' := #[.val (.int (6 : Int32)), .val (.int c), .val (.ref b1), .val (.ref a14)]) A18 d18_7 rfl rfl ?_
  refine own_iloadN (q := 9) (v := (6 : Int32)) A18 d18_8 rfl ?_
  refine own_ifcF (q := 12) A18 d18_9 (show (0 : Int32) < (6 : Int32) from by decide) ?_
  refine own_aloadN (q := 13) (v := (.ref a14)) A18 d18_12 rfl rfl ?_
  refine own_iconst (q := 14) A18 (0 : Int32) d18_13 rfl ?_
  refine own_aloadN (q := 15) (v := (.ref b1)) A18 d18_14 rfl rfl ?_
  refine own_iconst (q := 16) A18 (0 : Int32) d18_15 rfl ?_
  refine own_caloadv (q := 17) (v := (.int (114 : Int32))) A18 f23 0 (by decide) (by decide) (by decide) rfl d18_16 ?_
  refine own_stCv (q := 18) A18 f24 0 (by decide) (by decide) (by decide) (Nat.le_of_ble_eq_true rfl) g17 (Or.inr (Or.inr (Or.inr (by obtain ⟨c, q, _⟩ := f24; exact ⟨c, _, q, by decide⟩)))) d18_17 ?_
  intro T25 h26 sl27 A28 W29 X30
  have K31 : Keep h0 h26 [] := K22.wr W29 (Or.inr (Nat.le_trans K11.1 (Nat.le_of_eq g16)))
  have f32 : Arv Z h26 b1 k2 .char (9 : Int32) [(.int (114 : Int32)), (.int (101 : Int32)), (.int (100 : Int32)), (.int (105 : Int32)), (.int (114 : Int32)), (.int (101 : Int32)), (.int (99 : Int32)), (.int (116 : Int32)), (.int (115 : Int32))] (.int 0) := f23.other W29 z21
  have f33 : Arv Z h26 a14 k15 .char (6 : Int32) [(.int (114 : Int32)), (.int (0 : Int32)), (.int (0 : Int32)), (.int (0 : Int32)), (.int (0 : Int32)), (.int (0 : Int32))] (.int 0) := X30
  refine own_iloadN (q := 19) (v := (6 : Int32)) A28 d18_18 rfl ?_
  refine own_iconst (q := 20) A28 (1 : Int32) d18_19 rfl ?_
  refine own_icmpF (q := 23) A28 d18_20 (show (1 : Int32) < (6 : Int32) from by decide) ?_
  refine own_aloadN (q := 24) (v := (.ref a14)) A28 d18_23 rfl rfl ?_
  refine own_iconst (q := 25) A28 (1 : Int32) d18_24 rfl ?_
  refine own_aloadN (q := 26) (v := (.ref b1)) A28 d18_25 rfl rfl ?_
  refine own_iconst (q := 27) A28 (1 : Int32) d18_26 rfl ?_
  refine own_caloadv (q := 28) (v := (.int (101 : Int32))) A28 f32 1 (by decide) (by decide) (by decide) rfl d18_27 ?_
  refine own_stCv (q := 29) A28 f33 1 (by decide) (by decide) (by decide) (Nat.le_of_ble_eq_true rfl) g17 (Or.inr (Or.inr (Or.inr (by obtain ⟨c, q, _⟩ := f33; exact ⟨c, _, q, by decide⟩)))) d18_28 ?_
  intro T34 h35 sl36 A37 W38 X39
  have K40 : Keep h0 h35 [] := K31.wr W38 (Or.inr (Nat.le_trans K11.1 (Nat.le_of_eq g16)))
  have f41 : Arv Z h35 b1 k2 .char (9 : Int32) [(.int (114 : Int32)), (.int (101 : Int32)), (.int (100 : Int32)), (.int (105 : Int32)), (.int (114 : Int32)), (.int (101 : Int32)), (.int (99 : Int32)), (.int (116 : Int32)), (.int (115 : Int32))] (.int 0) := f32.other W38 z21
  have f42 : Arv Z h35 a14 k15 .char (6 : Int32) [(.int (114 : Int32)), (.int (101 : Int32)), (.int (0 : Int32)), (.int (0 : Int32)), (.int (0 : Int32)), (.int (0 : Int32))] (.int 0) := X39
  refine own_iloadN (q := 30) (v := (6 : Int32)) A37 d18_29 rfl ?_
  refine own_iconst (q := 31) A37 (2 : Int32) d18_30 rfl ?_
  refine own_icmpF (q := 34) A37 d18_31 (show (2 : Int32) < (6 : Int32) from by decide) ?_
  refine own_aloadN (q := 35) (v := (.ref a14)) A37 d18_34 rfl rfl ?_
  refine own_iconst (q := 36) A37 (2 : Int32) d18_35 rfl ?_
  refine own_aloadN (q := 37) (v := (.ref b1)) A37 d18_36 rfl rfl ?_
  refine own_iconst (q := 38) A37 (2 : Int32) d18_37 rfl ?_
  refine own_caloadv (q := 39) (v := (.int (100 : Int32))) A37 f41 2 (by decide) (by decide) (by decide) rfl d18_38 ?_
  refine own_stCv (q := 40) A37 f42 2 (by decide) (by decide) (by decide) (Nat.le_of_ble_eq_true rfl) g17 (Or.inr (Or.inr (Or.inr (by obtain ⟨c, q, _⟩ := f42; exact ⟨c, _, q, by decide⟩)))) d18_39 ?_
  intro T43 h44 sl45 A46 W47 X48
  have K49 : Keep h0 h44 [] := K40.wr W47 (Or.inr (Nat.le_trans K11.1 (Nat.le_of_eq g16)))
  have f50 : Arv Z h44 b1 k2 .char (9 : Int32) [(.int (114 : Int32)), (.int (101 : Int32)), (.int (100 : Int32)), (.int (105 : Int32)), (.int (114 : Int32)), (.int (101 : Int32)), (.int (99 : Int32)), (.int (116 : Int32)), (.int (115 : Int32))] (.int 0) := f41.other W47 z21
  have f51 : Arv Z h44 a14 k15 .char (6 : Int32) [(.int (114 : Int32)), (.int (101 : Int32)), (.int (100 : Int32)), (.int (0 : Int32)), (.int (0 : Int32)), (.int (0 : Int32))] (.int 0) := X48
  refine own_iloadN (q := 41) (v := (6 : Int32)) A46 d18_40 rfl ?_
  refine own_iconst (q := 42) A46 (3 : Int32) d18_41 rfl ?_
  refine own_icmpF (q := 45) A46 d18_42 (show (3 : Int32) < (6 : Int32) from by decide) ?_
  refine own_aloadN (q := 46) (v := (.ref a14)) A46 d18_45 rfl rfl ?_
  refine own_iconst (q := 47) A46 (3 : Int32) d18_46 rfl ?_
  refine own_aloadN (q := 48) (v := (.ref b1)) A46 d18_47 rfl rfl ?_
  refine own_iconst (q := 49) A46 (3 : Int32) d18_48 rfl ?_
  refine own_caloadv (q := 50) (v := (.int (105 : Int32))) A46 f50 3 (by decide) (by decide) (by decide) rfl d18_49 ?_
  refine own_stCv (q := 51) A46 f51 3 (by decide) (by decide) (by decide) (Nat.le_of_ble_eq_true rfl) g17 (Or.inr (Or.inr (Or.inr (by obtain ⟨c, q, _⟩ := f51; exact ⟨c, _, q, by decide⟩)))) d18_50 ?_
  intro T52 h53 sl54 A55 W56 X57
  have K58 : Keep h0 h53 [] := K49.wr W56 (Or.inr (Nat.le_trans K11.1 (Nat.le_of_eq g16)))
  have f59 : Arv Z h53 b1 k2 .char (9 : Int32) [(.int (114 : Int32)), (.int (101 : Int32)), (.int (100 : Int32)), (.int (105 : Int32)), (.int (114 : Int32)), (.int (101 : Int32)), (.int (99 : Int32)), (.int (116 : Int32)), (.int (115 : Int32))] (.int 0) := f50.other W56 z21
  have f60 : Arv Z h53 a14 k15 .char (6 : Int32) [(.int (114 : Int32)), (.int (101 : Int32)), (.int (100 : Int32)), (.int (105 : Int32)), (.int (0 : Int32)), (.int (0 : Int32))] (.int 0) := X57
  refine own_iloadN (q := 52) (v := (6 : Int32)) A55 d18_51 rfl ?_
  refine own_iconst (q := 53) A55 (4 : Int32) d18_52 rfl ?_
  refine own_icmpF (q := 56) A55 d18_53 (show (4 : Int32) < (6 : Int32) from by decide) ?_
  refine own_aloadN (q := 57) (v := (.ref a14)) A55 d18_56 rfl rfl ?_
  refine own_iconst (q := 58) A55 (4 : Int32) d18_57 rfl ?_
  refine own_aloadN (q := 59) (v := (.ref b1)) A55 d18_58 rfl rfl ?_
  refine own_iconst (q := 60) A55 (4 : Int32) d18_59 rfl ?_
  refine own_caloadv (q := 61) (v := (.int (114 : Int32))) A55 f59 4 (by decide) (by decide) (by decide) rfl d18_60 ?_
  refine own_stCv (q := 62) A55 f60 4 (by decide) (by decide) (by decide) (Nat.le_of_ble_eq_true rfl) g17 (Or.inr (Or.inr (Or.inr (by obtain ⟨c, q, _⟩ := f60; exact ⟨c, _, q, by decide⟩)))) d18_61 ?_
  intro T61 h62 sl63 A64 W65 X66
  have K67 : Keep h0 h62 [] := K58.wr W65 (Or.inr (Nat.le_trans K11.1 (Nat.le_of_eq g16)))
  have f68 : Arv Z h62 b1 k2 .char (9 : Int32) [(.int (114 : Int32)), (.int (101 : Int32)), (.int (100 : Int32)), (.int (105 : Int32)), (.int (114 : Int32)), (.int (101 : Int32)), (.int (99 : Int32)), (.int (116 : Int32)), (.int (115 : Int32))] (.int 0) := f59.other W65 z21
  have f69 : Arv Z h62 a14 k15 .char (6 : Int32) [(.int (114 : Int32)), (.int (101 : Int32)), (.int (100 : Int32)), (.int (105 : Int32)), (.int (114 : Int32)), (.int (0 : Int32))] (.int 0) := X66
  refine own_iloadN (q := 63) (v := (6 : Int32)) A64 d18_62 rfl ?_
  refine own_iconst (q := 64) A64 (5 : Int32) d18_63 rfl ?_
  refine own_icmpF (q := 67) A64 d18_64 (show (5 : Int32) < (6 : Int32) from by decide) ?_
  refine own_aloadN (q := 68) (v := (.ref a14)) A64 d18_67 rfl rfl ?_
  refine own_iconst (q := 69) A64 (5 : Int32) d18_68 rfl ?_
  refine own_aloadN (q := 70) (v := (.ref b1)) A64 d18_69 rfl rfl ?_
  refine own_iconst (q := 71) A64 (5 : Int32) d18_70 rfl ?_
  refine own_caloadv (q := 72) (v := (.int (101 : Int32))) A64 f68 5 (by decide) (by decide) (by decide) rfl d18_71 ?_
  refine own_stCv (q := 73) A64 f69 5 (by decide) (by decide) (by decide) (Nat.le_of_ble_eq_true rfl) g17 (Or.inr (Or.inr (Or.inr (by obtain ⟨c, q, _⟩ := f69; exact ⟨c, _, q, by decide⟩)))) d18_72 ?_
  intro T70 h71 sl72 A73 W74 X75
  have K76 : Keep h0 h71 [] := K67.wr W74 (Or.inr (Nat.le_trans K11.1 (Nat.le_of_eq g16)))
  have f77 : Arv Z h71 b1 k2 .char (9 : Int32) [(.int (114 : Int32)), (.int (101 : Int32)), (.int (100 : Int32)), (.int (105 : Int32)), (.int (114 : Int32)), (.int (101 : Int32)), (.int (99 : Int32)), (.int (116 : Int32)), (.int (115 : Int32))] (.int 0) := f68.other W74 z21
  have f78 : Arv Z h71 a14 k15 .char (6 : Int32) [(.int (114 : Int32)), (.int (101 : Int32)), (.int (100 : Int32)), (.int (105 : Int32)), (.int (114 : Int32)), (.int (101 : Int32))] (.int 0) := X75
  refine own_iloadN (q := 74) (v := (6 : Int32)) A73 d18_73 rfl ?_
  refine own_bipush (q := 76) A73 (6 : Int32) d18_74 rfl ?_
  refine own_icmpT (q := 87) A73 d18_76 (show ¬ (6 : Int32) < (6 : Int32) from by decide) ?_
  refine own_iloadN (q := 88) (v := (6 : Int32)) A73 d18_87 rfl ?_
  refine own_bipush (q := 90) A73 (7 : Int32) d18_88 rfl ?_
  refine own_icmpT (q := 101) A73 d18_90 (show ¬ (7 : Int32) < (6 : Int32) from by decide) ?_
  refine own_iloadN (q := 102) (v := (6 : Int32)) A73 d18_101 rfl ?_
  refine own_bipush (q := 104) A73 (8 : Int32) d18_102 rfl ?_
  refine own_icmpT (q := 115) A73 d18_104 (show ¬ (8 : Int32) < (6 : Int32) from by decide) ?_
  refine own_iloadN (q := 116) (v := (6 : Int32)) A73 d18_115 rfl ?_
  refine own_bipush (q := 118) A73 (9 : Int32) d18_116 rfl ?_
  refine own_icmpT (q := 126) A73 d18_118 (show ¬ (9 : Int32) < (6 : Int32) from by decide) ?_
  refine own_aloadN (q := 127) (v := (.ref a14)) A73 d18_126 rfl rfl ?_
  exact own_retA A73 hQ rfl rfl rfl d18_127 ⟨a14, _, rfl, g17, (Nat.le_trans K11.1 (Nat.le_of_eq g16)), K76, f78⟩
set_option maxRecDepth 65536 in
set_option maxHeartbeats 40000000 in
theorem rm_pre7 (l : Launch) (Z : State) (a0 : Array Value) (hw : ∀ d ∈ tables_1, d.before a0 Z = true) (zc : Int32) (dA uA : Addr) (c : Int32) (h0 : Heap) (n0 : Nat) (O0 : Old Z n0 h0) (hEL : EW Z a0 consts_1) (SC : Sta Z Z.heap "java/lang/String" "COMPACT_STRINGS" "Z" (.int zc)) (hz : ¬ zc = 0) (SD : Sta Z Z.heap "com/example/linkfield/linkfield/core/Verdict" "DEAD" "Lcom/example/linkfield/linkfield/core/Verdict;" (.ref dA)) (SU : Sta Z Z.heap "com/example/linkfield/linkfield/core/Verdict" "UNREACHABLE" "Lcom/example/linkfield/linkfield/core/Verdict;" (.ref uA)) (hc0 : ¬ c < 0) (hc1 : ¬ (255 : Int32) < c) (hnc : nar .char c = c) :
    own_Met true l Z n0 consts_1 [] (⟨"com/example/linkfield/linkfield/core/HttpCheckUnansweredPinLaw", "prefix", "(IC)[C"⟩ : MethodName) method_3_code 4 (some (.array .char)) [] ({ frames := 1, cells := 2, slots := 16, locals := 11 } : Room) #[(.int (7 : Int32)), (.int c)] h0 (fun v h => ∃ (b : Addr) (k : ClassId), v = some (.ref b) ∧ n0 ≤ b ∧ h0.size ≤ b ∧ Keep h0 h [] ∧ Arv Z h b k .char 7 [(.int (114 : Int32)), (.int (101 : Int32)), (.int (100 : Int32)), (.int (105 : Int32)), (.int (114 : Int32)), (.int (101 : Int32)), (.int (99 : Int32))] (.int 0)) := by
  refine own_enter (a0 := a0) (own := "com/example/linkfield/linkfield/core/HttpCheckUnansweredPinLaw") (nm := "prefix") (Ls := #[.val (.int (7 : Int32)), .val (.int c), .unset, .unset]) own_pn0 O0 hEL (fun m => by first | (simp [entryFrame, mkF, argsToLocals, Value.category, maxLocals]; done) | rfl) ?_
  intro p e s m args below meth cde T0 Q hQ A0
  show own_Run p e below Q m T0 0 #[.val (.int (7 : Int32)), .val (.int c), .unset, .unset] []
  refine own_staticW (q := 3) (W := 0) (argsL := []) (rest := []) A0 (hw _ (List.mem_of_getElem? (i := 0) rfl)) (hw _ (List.mem_of_getElem? (i := 1) rfl)) (hw _ (List.mem_of_getElem? (i := 2) rfl)) (hw _ (List.mem_of_getElem? (i := 3) rfl)) (by decide) (own_payW (rm_word l Z a0 hw zc dA uA  h0 n0 A0.old hEL SC hz SD SU ) (hw _ (List.mem_of_getElem? (i := 3) rfl)) (hw _ (List.mem_of_getElem? (i := 2) rfl)) (by decide) (by decide)) (fun _ z => nomatch z) (Nat.le_of_eq rfl) own_pd0 rfl rfl rfl d18_0 (by decide) (by decide) ?_
  rintro v7 T8 h9 A10 ⟨b1, k2, rfl, g3, g4, K5, V6⟩
  show own_Run p e below Q m T8 3 #[.val (.int (7 : Int32)), .val (.int c), .unset, .unset] [(.ref b1)]
  have K11 : Keep h0 h9 [] := (Keep.refl h0 []).trans K5 all0
  refine own_astoreN (q := 4) (L' := #[.val (.int (7 : Int32)), .val (.int c), .val (.ref b1), .unset]) A10 d18_3 rfl rfl ?_
  refine own_iloadN (q := 5) (v := (7 : Int32)) A10 d18_4 rfl ?_
  refine own_newPv (q := 7) (ty := .char) (dv := .int 0) A10 rfl rfl (hw _ (List.mem_of_getElem? (i := 4) rfl)) d18_5 7 (by decide) (by decide) (by decide) (by decide) (by decide) ?_
  intro T12 h13 a14 k15 g16 g17 A18 E19 X20
  have z21 : b1 ≠ a14 := Nat.ne_of_lt (Nat.lt_of_lt_of_le V6.lt (Nat.le_of_eq g16))
  have K22 : Keep h0 h13 [] := K11.ext E19
  have f23 : Arv Z h13 b1 k2 .char (9 : Int32) [(.int (114 : Int32)), (.int (101 : Int32)), (.int (100 : Int32)), (.int (105 : Int32)), (.int (114 : Int32)), (.int (101 : Int32)), (.int (99 : Int32)), (.int (116 : Int32)), (.int (115 : Int32))] (.int 0) := V6.ext E19
  have f24 : Arv Z h13 a14 k15 .char (7 : Int32) [(.int (0 : Int32)), (.int (0 : Int32)), (.int (0 : Int32)), (.int (0 : Int32)), (.int (0 : Int32)), (.int (0 : Int32)), (.int (0 : Int32))] (.int 0) := X20
  refine own_astoreN (q := 8) (L' := #[.val (.int (7 : Int32)), .val (.int c), .val (.ref b1), .val (.ref a14)]) A18 d18_7 rfl rfl ?_
  refine own_iloadN (q := 9) (v := (7 : Int32)) A18 d18_8 rfl ?_
  refine own_ifcF (q := 12) A18 d18_9 (show (0 : Int32) < (7 : Int32) from by decide) ?_
  refine own_aloadN (q := 13) (v := (.ref a14)) A18 d18_12 rfl rfl ?_
  refine own_iconst (q := 14) A18 (0 : Int32) d18_13 rfl ?_
  refine own_aloadN (q := 15) (v := (.ref b1)) A18 d18_14 rfl rfl ?_
  refine own_iconst (q := 16) A18 (0 : Int32) d18_15 rfl ?_
  refine own_caloadv (q := 17) (v := (.int (114 : Int32))) A18 f23 0 (by decide) (by decide) (by decide) rfl d18_16 ?_
  refine own_stCv (q := 18) A18 f24 0 (by decide) (by decide) (by decide) (Nat.le_of_ble_eq_true rfl) g17 (Or.inr (Or.inr (Or.inr (by obtain ⟨c, q, _⟩ := f24; exact ⟨c, _, q, by decide⟩)))) d18_17 ?_
  intro T25 h26 sl27 A28 W29 X30
  have K31 : Keep h0 h26 [] := K22.wr W29 (Or.inr (Nat.le_trans K11.1 (Nat.le_of_eq g16)))
  have f32 : Arv Z h26 b1 k2 .char (9 : Int32) [(.int (114 : Int32)), (.int (101 : Int32)), (.int (100 : Int32)), (.int (105 : Int32)), (.int (114 : Int32)), (.int (101 : Int32)), (.int (99 : Int32)), (.int (116 : Int32)), (.int (115 : Int32))] (.int 0) := f23.other W29 z21
  have f33 : Arv Z h26 a14 k15 .char (7 : Int32) [(.int (114 : Int32)), (.int (0 : Int32)), (.int (0 : Int32)), (.int (0 : Int32)), (.int (0 : Int32)), (.int (0 : Int32)), (.int (0 : Int32))] (.int 0) := X30
  refine own_iloadN (q := 19) (v := (7 : Int32)) A28 d18_18 rfl ?_
  refine own_iconst (q := 20) A28 (1 : Int32) d18_19 rfl ?_
  refine own_icmpF (q := 23) A28 d18_20 (show (1 : Int32) < (7 : Int32) from by decide) ?_
  refine own_aloadN (q := 24) (v := (.ref a14)) A28 d18_23 rfl rfl ?_
  refine own_iconst (q := 25) A28 (1 : Int32) d18_24 rfl ?_
  refine own_aloadN (q := 26) (v := (.ref b1)) A28 d18_25 rfl rfl ?_
  refine own_iconst (q := 27) A28 (1 : Int32) d18_26 rfl ?_
  refine own_caloadv (q := 28) (v := (.int (101 : Int32))) A28 f32 1 (by decide) (by decide) (by decide) rfl d18_27 ?_
  refine own_stCv (q := 29) A28 f33 1 (by decide) (by decide) (by decide) (Nat.le_of_ble_eq_true rfl) g17 (Or.inr (Or.inr (Or.inr (by obtain ⟨c, q, _⟩ := f33; exact ⟨c, _, q, by decide⟩)))) d18_28 ?_
  intro T34 h35 sl36 A37 W38 X39
  have K40 : Keep h0 h35 [] := K31.wr W38 (Or.inr (Nat.le_trans K11.1 (Nat.le_of_eq g16)))
  have f41 : Arv Z h35 b1 k2 .char (9 : Int32) [(.int (114 : Int32)), (.int (101 : Int32)), (.int (100 : Int32)), (.int (105 : Int32)), (.int (114 : Int32)), (.int (101 : Int32)), (.int (99 : Int32)), (.int (116 : Int32)), (.int (115 : Int32))] (.int 0) := f32.other W38 z21
  have f42 : Arv Z h35 a14 k15 .char (7 : Int32) [(.int (114 : Int32)), (.int (101 : Int32)), (.int (0 : Int32)), (.int (0 : Int32)), (.int (0 : Int32)), (.int (0 : Int32)), (.int (0 : Int32))] (.int 0) := X39
  refine own_iloadN (q := 30) (v := (7 : Int32)) A37 d18_29 rfl ?_
  refine own_iconst (q := 31) A37 (2 : Int32) d18_30 rfl ?_
  refine own_icmpF (q := 34) A37 d18_31 (show (2 : Int32) < (7 : Int32) from by decide) ?_
  refine own_aloadN (q := 35) (v := (.ref a14)) A37 d18_34 rfl rfl ?_
  refine own_iconst (q := 36) A37 (2 : Int32) d18_35 rfl ?_
  refine own_aloadN (q := 37) (v := (.ref b1)) A37 d18_36 rfl rfl ?_
  refine own_iconst (q := 38) A37 (2 : Int32) d18_37 rfl ?_
  refine own_caloadv (q := 39) (v := (.int (100 : Int32))) A37 f41 2 (by decide) (by decide) (by decide) rfl d18_38 ?_
  refine own_stCv (q := 40) A37 f42 2 (by decide) (by decide) (by decide) (Nat.le_of_ble_eq_true rfl) g17 (Or.inr (Or.inr (Or.inr (by obtain ⟨c, q, _⟩ := f42; exact ⟨c, _, q, by decide⟩)))) d18_39 ?_
  intro T43 h44 sl45 A46 W47 X48
  have K49 : Keep h0 h44 [] := K40.wr W47 (Or.inr (Nat.le_trans K11.1 (Nat.le_of_eq g16)))
  have f50 : Arv Z h44 b1 k2 .char (9 : Int32) [(.int (114 : Int32)), (.int (101 : Int32)), (.int (100 : Int32)), (.int (105 : Int32)), (.int (114 : Int32)), (.int (101 : Int32)), (.int (99 : Int32)), (.int (116 : Int32)), (.int (115 : Int32))] (.int 0) := f41.other W47 z21
  have f51 : Arv Z h44 a14 k15 .char (7 : Int32) [(.int (114 : Int32)), (.int (101 : Int32)), (.int (100 : Int32)), (.int (0 : Int32)), (.int (0 : Int32)), (.int (0 : Int32)), (.int (0 : Int32))] (.int 0) := X48
  refine own_iloadN (q := 41) (v := (7 : Int32)) A46 d18_40 rfl ?_
  refine own_iconst (q := 42) A46 (3 : Int32) d18_41 rfl ?_
  refine own_icmpF (q := 45) A46 d18_42 (show (3 : Int32) < (7 : Int32) from by decide) ?_
  refine own_aloadN (q := 46) (v := (.ref a14)) A46 d18_45 rfl rfl ?_
  refine own_iconst (q := 47) A46 (3 : Int32) d18_46 rfl ?_
  refine own_aloadN (q := 48) (v := (.ref b1)) A46 d18_47 rfl rfl ?_
  refine own_iconst (q := 49) A46 (3 : Int32) d18_48 rfl ?_
  refine own_caloadv (q := 50) (v := (.int (105 : Int32))) A46 f50 3 (by decide) (by decide) (by decide) rfl d18_49 ?_
  refine own_stCv (q := 51) A46 f51 3 (by decide) (by decide) (by decide) (Nat.le_of_ble_eq_true rfl) g17 (Or.inr (Or.inr (Or.inr (by obtain ⟨c, q, _⟩ := f51; exact ⟨c, _, q, by decide⟩)))) d18_50 ?_
  intro T52 h53 sl54 A55 W56 X57
  have K58 : Keep h0 h53 [] := K49.wr W56 (Or.inr (Nat.le_trans K11.1 (Nat.le_of_eq g16)))
  have f59 : Arv Z h53 b1 k2 .char (9 : Int32) [(.int (114 : Int32)), (.int (101 : Int32)), (.int (100 : Int32)), (.int (105 : Int32)), (.int (114 : Int32)), (.int (101 : Int32)), (.int (99 : Int32)), (.int (116 : Int32)), (.int (115 : Int32))] (.int 0) := f50.other W56 z21
  have f60 : Arv Z h53 a14 k15 .char (7 : Int32) [(.int (114 : Int32)), (.int (101 : Int32)), (.int (100 : Int32)), (.int (105 : Int32)), (.int (0 : Int32)), (.int (0 : Int32)), (.int (0 : Int32))] (.int 0) := X57
  refine own_iloadN (q := 52) (v := (7 : Int32)) A55 d18_51 rfl ?_
  refine own_iconst (q := 53) A55 (4 : Int32) d18_52 rfl ?_
  refine own_icmpF (q := 56) A55 d18_53 (show (4 : Int32) < (7 : Int32) from by decide) ?_
  refine own_aloadN (q := 57) (v := (.ref a14)) A55 d18_56 rfl rfl ?_
  refine own_iconst (q := 58) A55 (4 : Int32) d18_57 rfl ?_
  refine own_aloadN (q := 59) (v := (.ref b1)) A55 d18_58 rfl rfl ?_
  refine own_iconst (q := 60) A55 (4 : Int32) d18_59 rfl ?_
  refine own_caloadv (q := 61) (v := (.int (114 : Int32))) A55 f59 4 (by decide) (by decide) (by decide) rfl d18_60 ?_
  refine own_stCv (q := 62) A55 f60 4 (by decide) (by decide) (by decide) (Nat.le_of_ble_eq_true rfl) g17 (Or.inr (Or.inr (Or.inr (by obtain ⟨c, q, _⟩ := f60; exact ⟨c, _, q, by decide⟩)))) d18_61 ?_
  intro T61 h62 sl63 A64 W65 X66
  have K67 : Keep h0 h62 [] := K58.wr W65 (Or.inr (Nat.le_trans K11.1 (Nat.le_of_eq g16)))
  have f68 : Arv Z h62 b1 k2 .char (9 : Int32) [(.int (114 : Int32)), (.int (101 : Int32)), (.int (100 : Int32)), (.int (105 : Int32)), (.int (114 : Int32)), (.int (101 : Int32)), (.int (99 : Int32)), (.int (116 : Int32)), (.int (115 : Int32))] (.int 0) := f59.other W65 z21
  have f69 : Arv Z h62 a14 k15 .char (7 : Int32) [(.int (114 : Int32)), (.int (101 : Int32)), (.int (100 : Int32)), (.int (105 : Int32)), (.int (114 : Int32)), (.int (0 : Int32)), (.int (0 : Int32))] (.int 0) := X66
  refine own_iloadN (q := 63) (v := (7 : Int32)) A64 d18_62 rfl ?_
  refine own_iconst (q := 64) A64 (5 : Int32) d18_63 rfl ?_
  refine own_icmpF (q := 67) A64 d18_64 (show (5 : Int32) < (7 : Int32) from by decide) ?_
  refine own_aloadN (q := 68) (v := (.ref a14)) A64 d18_67 rfl rfl ?_
  refine own_iconst (q := 69) A64 (5 : Int32) d18_68 rfl ?_
  refine own_aloadN (q := 70) (v := (.ref b1)) A64 d18_69 rfl rfl ?_
  refine own_iconst (q := 71) A64 (5 : Int32) d18_70 rfl ?_
  refine own_caloadv (q := 72) (v := (.int (101 : Int32))) A64 f68 5 (by decide) (by decide) (by decide) rfl d18_71 ?_
  refine own_stCv (q := 73) A64 f69 5 (by decide) (by decide) (by decide) (Nat.le_of_ble_eq_true rfl) g17 (Or.inr (Or.inr (Or.inr (by obtain ⟨c, q, _⟩ := f69; exact ⟨c, _, q, by decide⟩)))) d18_72 ?_
  intro T70 h71 sl72 A73 W74 X75
  have K76 : Keep h0 h71 [] := K67.wr W74 (Or.inr (Nat.le_trans K11.1 (Nat.le_of_eq g16)))
  have f77 : Arv Z h71 b1 k2 .char (9 : Int32) [(.int (114 : Int32)), (.int (101 : Int32)), (.int (100 : Int32)), (.int (105 : Int32)), (.int (114 : Int32)), (.int (101 : Int32)), (.int (99 : Int32)), (.int (116 : Int32)), (.int (115 : Int32))] (.int 0) := f68.other W74 z21
  have f78 : Arv Z h71 a14 k15 .char (7 : Int32) [(.int (114 : Int32)), (.int (101 : Int32)), (.int (100 : Int32)), (.int (105 : Int32)), (.int (114 : Int32)), (.int (101 : Int32)), (.int (0 : Int32))] (.int 0) := X75
  refine own_iloadN (q := 74) (v := (7 : Int32)) A73 d18_73 rfl ?_
  refine own_bipush (q := 76) A73 (6 : Int32) d18_74 rfl ?_
  refine own_icmpF (q := 79) A73 d18_76 (show (6 : Int32) < (7 : Int32) from by decide) ?_
  refine own_aloadN (q := 80) (v := (.ref a14)) A73 d18_79 rfl rfl ?_
  refine own_bipush (q := 82) A73 (6 : Int32) d18_80 rfl ?_
  refine own_aloadN (q := 83) (v := (.ref b1)) A73 d18_82 rfl rfl ?_
  refine own_bipush (q := 85) A73 (6 : Int32) d18_83 rfl ?_
  refine own_caloadv (q := 86) (v := (.int (99 : Int32))) A73 f77 6 (by decide) (by decide) (by decide) rfl d18_85 ?_
  refine own_stCv (q := 87) A73 f78 6 (by decide) (by decide) (by decide) (Nat.le_of_ble_eq_true rfl) g17 (Or.inr (Or.inr (Or.inr (by obtain ⟨c, q, _⟩ := f78; exact ⟨c, _, q, by decide⟩)))) d18_86 ?_
  intro T79 h80 sl81 A82 W83 X84
  have K85 : Keep h0 h80 [] := K76.wr W83 (Or.inr (Nat.le_trans K11.1 (Nat.le_of_eq g16)))
  have f86 : Arv Z h80 b1 k2 .char (9 : Int32) [(.int (114 : Int32)), (.int (101 : Int32)), (.int (100 : Int32)), (.int (105 : Int32)), (.int (114 : Int32)), (.int (101 : Int32)), (.int (99 : Int32)), (.int (116 : Int32)), (.int (115 : Int32))] (.int 0) := f77.other W83 z21
  have f87 : Arv Z h80 a14 k15 .char (7 : Int32) [(.int (114 : Int32)), (.int (101 : Int32)), (.int (100 : Int32)), (.int (105 : Int32)), (.int (114 : Int32)), (.int (101 : Int32)), (.int (99 : Int32))] (.int 0) := X84
  refine own_iloadN (q := 88) (v := (7 : Int32)) A82 d18_87 rfl ?_
  refine own_bipush (q := 90) A82 (7 : Int32) d18_88 rfl ?_
  refine own_icmpT (q := 101) A82 d18_90 (show ¬ (7 : Int32) < (7 : Int32) from by decide) ?_
  refine own_iloadN (q := 102) (v := (7 : Int32)) A82 d18_101 rfl ?_
  refine own_bipush (q := 104) A82 (8 : Int32) d18_102 rfl ?_
  refine own_icmpT (q := 115) A82 d18_104 (show ¬ (8 : Int32) < (7 : Int32) from by decide) ?_
  refine own_iloadN (q := 116) (v := (7 : Int32)) A82 d18_115 rfl ?_
  refine own_bipush (q := 118) A82 (9 : Int32) d18_116 rfl ?_
  refine own_icmpT (q := 126) A82 d18_118 (show ¬ (9 : Int32) < (7 : Int32) from by decide) ?_
  refine own_aloadN (q := 127) (v := (.ref a14)) A82 d18_126 rfl rfl ?_
  exact own_retA A82 hQ rfl rfl rfl d18_127 ⟨a14, _, rfl, g17, (Nat.le_trans K11.1 (Nat.le_of_eq g16)), K85, f87⟩
set_option maxRecDepth 65536 in
set_option maxHeartbeats 40000000 in
theorem rm_pre8 (l : Launch) (Z : State) (a0 : Array Value) (hw : ∀ d ∈ tables_1, d.before a0 Z = true) (zc : Int32) (dA uA : Addr) (c : Int32) (h0 : Heap) (n0 : Nat) (O0 : Old Z n0 h0) (hEL : EW Z a0 consts_1) (SC : Sta Z Z.heap "java/lang/String" "COMPACT_STRINGS" "Z" (.int zc)) (hz : ¬ zc = 0) (SD : Sta Z Z.heap "com/example/linkfield/linkfield/core/Verdict" "DEAD" "Lcom/example/linkfield/linkfield/core/Verdict;" (.ref dA)) (SU : Sta Z Z.heap "com/example/linkfield/linkfield/core/Verdict" "UNREACHABLE" "Lcom/example/linkfield/linkfield/core/Verdict;" (.ref uA)) (hc0 : ¬ c < 0) (hc1 : ¬ (255 : Int32) < c) (hnc : nar .char c = c) :
    own_Met true l Z n0 consts_1 [] (⟨"com/example/linkfield/linkfield/core/HttpCheckUnansweredPinLaw", "prefix", "(IC)[C"⟩ : MethodName) method_3_code 4 (some (.array .char)) [] ({ frames := 1, cells := 2, slots := 17, locals := 11 } : Room) #[(.int (8 : Int32)), (.int c)] h0 (fun v h => ∃ (b : Addr) (k : ClassId), v = some (.ref b) ∧ n0 ≤ b ∧ h0.size ≤ b ∧ Keep h0 h [] ∧ Arv Z h b k .char 8 [(.int (114 : Int32)), (.int (101 : Int32)), (.int (100 : Int32)), (.int (105 : Int32)), (.int (114 : Int32)), (.int (101 : Int32)), (.int (99 : Int32)), (.int (116 : Int32))] (.int 0)) := by
  refine own_enter (a0 := a0) (own := "com/example/linkfield/linkfield/core/HttpCheckUnansweredPinLaw") (nm := "prefix") (Ls := #[.val (.int (8 : Int32)), .val (.int c), .unset, .unset]) own_pn0 O0 hEL (fun m => by first | (simp [entryFrame, mkF, argsToLocals, Value.category, maxLocals]; done) | rfl) ?_
  intro p e s m args below meth cde T0 Q hQ A0
  show own_Run p e below Q m T0 0 #[.val (.int (8 : Int32)), .val (.int c), .unset, .unset] []
  refine own_staticW (q := 3) (W := 0) (argsL := []) (rest := []) A0 (hw _ (List.mem_of_getElem? (i := 0) rfl)) (hw _ (List.mem_of_getElem? (i := 1) rfl)) (hw _ (List.mem_of_getElem? (i := 2) rfl)) (hw _ (List.mem_of_getElem? (i := 3) rfl)) (by decide) (own_payW (rm_word l Z a0 hw zc dA uA  h0 n0 A0.old hEL SC hz SD SU ) (hw _ (List.mem_of_getElem? (i := 3) rfl)) (hw _ (List.mem_of_getElem? (i := 2) rfl)) (by decide) (by decide)) (fun _ z => nomatch z) (Nat.le_of_eq rfl) own_pd0 rfl rfl rfl d18_0 (by decide) (by decide) ?_
  rintro v7 T8 h9 A10 ⟨b1, k2, rfl, g3, g4, K5, V6⟩
  show own_Run p e below Q m T8 3 #[.val (.int (8 : Int32)), .val (.int c), .unset, .unset] [(.ref b1)]
  have K11 : Keep h0 h9 [] := (Keep.refl h0 []).trans K5 all0
  refine own_astoreN (q := 4) (L' := #[.val (.int (8 : Int32)), .val (.int c), .val (.ref b1), .unset]) A10 d18_3 rfl rfl ?_
  refine own_iloadN (q := 5) (v := (8 : Int32)) A10 d18_4 rfl ?_
  refine own_newPv (q := 7) (ty := .char) (dv := .int 0) A10 rfl rfl (hw _ (List.mem_of_getElem? (i := 4) rfl)) d18_5 8 (by decide) (by decide) (by decide) (by decide) (by decide) ?_
  intro T12 h13 a14 k15 g16 g17 A18 E19 X20
  have z21 : b1 ≠ a14 := Nat.ne_of_lt (Nat.lt_of_lt_of_le V6.lt (Nat.le_of_eq g16))
  have K22 : Keep h0 h13 [] := K11.ext E19
  have f23 : Arv Z h13 b1 k2 .char (9 : Int32) [(.int (114 : Int32)), (.int (101 : Int32)), (.int (100 : Int32)), (.int (105 : Int32)), (.int (114 : Int32)), (.int (101 : Int32)), (.int (99 : Int32)), (.int (116 : Int32)), (.int (115 : Int32))] (.int 0) := V6.ext E19
  have f24 : Arv Z h13 a14 k15 .char (8 : Int32) [(.int (0 : Int32)), (.int (0 : Int32)), (.int (0 : Int32)), (.int (0 : Int32)), (.int (0 : Int32)), (.int (0 : Int32)), (.int (0 : Int32)), (.int (0 : Int32))] (.int 0) := X20
  refine own_astoreN (q := 8) (L' := #[.val (.int (8 : Int32)), .val (.int c), .val (.ref b1), .val (.ref a14)]) A18 d18_7 rfl rfl ?_
  refine own_iloadN (q := 9) (v := (8 : Int32)) A18 d18_8 rfl ?_
  refine own_ifcF (q := 12) A18 d18_9 (show (0 : Int32) < (8 : Int32) from by decide) ?_
  refine own_aloadN (q := 13) (v := (.ref a14)) A18 d18_12 rfl rfl ?_
  refine own_iconst (q := 14) A18 (0 : Int32) d18_13 rfl ?_
  refine own_aloadN (q := 15) (v := (.ref b1)) A18 d18_14 rfl rfl ?_
  refine own_iconst (q := 16) A18 (0 : Int32) d18_15 rfl ?_
  refine own_caloadv (q := 17) (v := (.int (114 : Int32))) A18 f23 0 (by decide) (by decide) (by decide) rfl d18_16 ?_
  refine own_stCv (q := 18) A18 f24 0 (by decide) (by decide) (by decide) (Nat.le_of_ble_eq_true rfl) g17 (Or.inr (Or.inr (Or.inr (by obtain ⟨c, q, _⟩ := f24; exact ⟨c, _, q, by decide⟩)))) d18_17 ?_
  intro T25 h26 sl27 A28 W29 X30
  have K31 : Keep h0 h26 [] := K22.wr W29 (Or.inr (Nat.le_trans K11.1 (Nat.le_of_eq g16)))
  have f32 : Arv Z h26 b1 k2 .char (9 : Int32) [(.int (114 : Int32)), (.int (101 : Int32)), (.int (100 : Int32)), (.int (105 : Int32)), (.int (114 : Int32)), (.int (101 : Int32)), (.int (99 : Int32)), (.int (116 : Int32)), (.int (115 : Int32))] (.int 0) := f23.other W29 z21
  have f33 : Arv Z h26 a14 k15 .char (8 : Int32) [(.int (114 : Int32)), (.int (0 : Int32)), (.int (0 : Int32)), (.int (0 : Int32)), (.int (0 : Int32)), (.int (0 : Int32)), (.int (0 : Int32)), (.int (0 : Int32))] (.int 0) := X30
  refine own_iloadN (q := 19) (v := (8 : Int32)) A28 d18_18 rfl ?_
  refine own_iconst (q := 20) A28 (1 : Int32) d18_19 rfl ?_
  refine own_icmpF (q := 23) A28 d18_20 (show (1 : Int32) < (8 : Int32) from by decide) ?_
  refine own_aloadN (q := 24) (v := (.ref a14)) A28 d18_23 rfl rfl ?_
  refine own_iconst (q := 25) A28 (1 : Int32) d18_24 rfl ?_
  refine own_aloadN (q := 26) (v := (.ref b1)) A28 d18_25 rfl rfl ?_
  refine own_iconst (q := 27) A28 (1 : Int32) d18_26 rfl ?_
  refine own_caloadv (q := 28) (v := (.int (101 : Int32))) A28 f32 1 (by decide) (by decide) (by decide) rfl d18_27 ?_
  refine own_stCv (q := 29) A28 f33 1 (by decide) (by decide) (by decide) (Nat.le_of_ble_eq_true rfl) g17 (Or.inr (Or.inr (Or.inr (by obtain ⟨c, q, _⟩ := f33; exact ⟨c, _, q, by decide⟩)))) d18_28 ?_
  intro T34 h35 sl36 A37 W38 X39
  have K40 : Keep h0 h35 [] := K31.wr W38 (Or.inr (Nat.le_trans K11.1 (Nat.le_of_eq g16)))
  have f41 : Arv Z h35 b1 k2 .char (9 : Int32) [(.int (114 : Int32)), (.int (101 : Int32)), (.int (100 : Int32)), (.int (105 : Int32)), (.int (114 : Int32)), (.int (101 : Int32)), (.int (99 : Int32)), (.int (116 : Int32)), (.int (115 : Int32))] (.int 0) := f32.other W38 z21
  have f42 : Arv Z h35 a14 k15 .char (8 : Int32) [(.int (114 : Int32)), (.int (101 : Int32)), (.int (0 : Int32)), (.int (0 : Int32)), (.int (0 : Int32)), (.int (0 : Int32)), (.int (0 : Int32)), (.int (0 : Int32))] (.int 0) := X39
  refine own_iloadN (q := 30) (v := (8 : Int32)) A37 d18_29 rfl ?_
  refine own_iconst (q := 31) A37 (2 : Int32) d18_30 rfl ?_
  refine own_icmpF (q := 34) A37 d18_31 (show (2 : Int32) < (8 : Int32) from by decide) ?_
  refine own_aloadN (q := 35) (v := (.ref a14)) A37 d18_34 rfl rfl ?_
  refine own_iconst (q := 36) A37 (2 : Int32) d18_35 rfl ?_
  refine own_aloadN (q := 37) (v := (.ref b1)) A37 d18_36 rfl rfl ?_
  refine own_iconst (q := 38) A37 (2 : Int32) d18_37 rfl ?_
  refine own_caloadv (q := 39) (v := (.int (100 : Int32))) A37 f41 2 (by decide) (by decide) (by decide) rfl d18_38 ?_
  refine own_stCv (q := 40) A37 f42 2 (by decide) (by decide) (by decide) (Nat.le_of_ble_eq_true rfl) g17 (Or.inr (Or.inr (Or.inr (by obtain ⟨c, q, _⟩ := f42; exact ⟨c, _, q, by decide⟩)))) d18_39 ?_
  intro T43 h44 sl45 A46 W47 X48
  have K49 : Keep h0 h44 [] := K40.wr W47 (Or.inr (Nat.le_trans K11.1 (Nat.le_of_eq g16)))
  have f50 : Arv Z h44 b1 k2 .char (9 : Int32) [(.int (114 : Int32)), (.int (101 : Int32)), (.int (100 : Int32)), (.int (105 : Int32)), (.int (114 : Int32)), (.int (101 : Int32)), (.int (99 : Int32)), (.int (116 : Int32)), (.int (115 : Int32))] (.int 0) := f41.other W47 z21
  have f51 : Arv Z h44 a14 k15 .char (8 : Int32) [(.int (114 : Int32)), (.int (101 : Int32)), (.int (100 : Int32)), (.int (0 : Int32)), (.int (0 : Int32)), (.int (0 : Int32)), (.int (0 : Int32)), (.int (0 : Int32))] (.int 0) := X48
  refine own_iloadN (q := 41) (v := (8 : Int32)) A46 d18_40 rfl ?_
  refine own_iconst (q := 42) A46 (3 : Int32) d18_41 rfl ?_
  refine own_icmpF (q := 45) A46 d18_42 (show (3 : Int32) < (8 : Int32) from by decide) ?_
  refine own_aloadN (q := 46) (v := (.ref a14)) A46 d18_45 rfl rfl ?_
  refine own_iconst (q := 47) A46 (3 : Int32) d18_46 rfl ?_
  refine own_aloadN (q := 48) (v := (.ref b1)) A46 d18_47 rfl rfl ?_
  refine own_iconst (q := 49) A46 (3 : Int32) d18_48 rfl ?_
  refine own_caloadv (q := 50) (v := (.int (105 : Int32))) A46 f50 3 (by decide) (by decide) (by decide) rfl d18_49 ?_
  refine own_stCv (q := 51) A46 f51 3 (by decide) (by decide) (by decide) (Nat.le_of_ble_eq_true rfl) g17 (Or.inr (Or.inr (Or.inr (by obtain ⟨c, q, _⟩ := f51; exact ⟨c, _, q, by decide⟩)))) d18_50 ?_
  intro T52 h53 sl54 A55 W56 X57
  have K58 : Keep h0 h53 [] := K49.wr W56 (Or.inr (Nat.le_trans K11.1 (Nat.le_of_eq g16)))
  have f59 : Arv Z h53 b1 k2 .char (9 : Int32) [(.int (114 : Int32)), (.int (101 : Int32)), (.int (100 : Int32)), (.int (105 : Int32)), (.int (114 : Int32)), (.int (101 : Int32)), (.int (99 : Int32)), (.int (116 : Int32)), (.int (115 : Int32))] (.int 0) := f50.other W56 z21
  have f60 : Arv Z h53 a14 k15 .char (8 : Int32) [(.int (114 : Int32)), (.int (101 : Int32)), (.int (100 : Int32)), (.int (105 : Int32)), (.int (0 : Int32)), (.int (0 : Int32)), (.int (0 : Int32)), (.int (0 : Int32))] (.int 0) := X57
  refine own_iloadN (q := 52) (v := (8 : Int32)) A55 d18_51 rfl ?_
  refine own_iconst (q := 53) A55 (4 : Int32) d18_52 rfl ?_
  refine own_icmpF (q := 56) A55 d18_53 (show (4 : Int32) < (8 : Int32) from by decide) ?_
  refine own_aloadN (q := 57) (v := (.ref a14)) A55 d18_56 rfl rfl ?_
  refine own_iconst (q := 58) A55 (4 : Int32) d18_57 rfl ?_
  refine own_aloadN (q := 59) (v := (.ref b1)) A55 d18_58 rfl rfl ?_
  refine own_iconst (q := 60) A55 (4 : Int32) d18_59 rfl ?_
  refine own_caloadv (q := 61) (v := (.int (114 : Int32))) A55 f59 4 (by decide) (by decide) (by decide) rfl d18_60 ?_
  refine own_stCv (q := 62) A55 f60 4 (by decide) (by decide) (by decide) (Nat.le_of_ble_eq_true rfl) g17 (Or.inr (Or.inr (Or.inr (by obtain ⟨c, q, _⟩ := f60; exact ⟨c, _, q, by decide⟩)))) d18_61 ?_
  intro T61 h62 sl63 A64 W65 X66
  have K67 : Keep h0 h62 [] := K58.wr W65 (Or.inr (Nat.le_trans K11.1 (Nat.le_of_eq g16)))
  have f68 : Arv Z h62 b1 k2 .char (9 : Int32) [(.int (114 : Int32)), (.int (101 : Int32)), (.int (100 : Int32)), (.int (105 : Int32)), (.int (114 : Int32)), (.int (101 : Int32)), (.int (99 : Int32)), (.int (116 : Int32)), (.int (115 : Int32))] (.int 0) := f59.other W65 z21
  have f69 : Arv Z h62 a14 k15 .char (8 : Int32) [(.int (114 : Int32)), (.int (101 : Int32)), (.int (100 : Int32)), (.int (105 : Int32)), (.int (114 : Int32)), (.int (0 : Int32)), (.int (0 : Int32)), (.int (0 : Int32))] (.int 0) := X66
  refine own_iloadN (q := 63) (v := (8 : Int32)) A64 d18_62 rfl ?_
  refine own_iconst (q := 64) A64 (5 : Int32) d18_63 rfl ?_
  refine own_icmpF (q := 67) A64 d18_64 (show (5 : Int32) < (8 : Int32) from by decide) ?_
  refine own_aloadN (q := 68) (v := (.ref a14)) A64 d18_67 rfl rfl ?_
  refine own_iconst (q := 69) A64 (5 : Int32) d18_68 rfl ?_
  refine own_aloadN (q := 70) (v := (.ref b1)) A64 d18_69 rfl rfl ?_
  refine own_iconst (q := 71) A64 (5 : Int32) d18_70 rfl ?_
  refine own_caloadv (q := 72) (v := (.int (101 : Int32))) A64 f68 5 (by decide) (by decide) (by decide) rfl d18_71 ?_
  refine own_stCv (q := 73) A64 f69 5 (by decide) (by decide) (by decide) (Nat.le_of_ble_eq_true rfl) g17 (Or.inr (Or.inr (Or.inr (by obtain ⟨c, q, _⟩ := f69; exact ⟨c, _, q, by decide⟩)))) d18_72 ?_
  intro T70 h71 sl72 A73 W74 X75
  have K76 : Keep h0 h71 [] := K67.wr W74 (Or.inr (Nat.le_trans K11.1 (Nat.le_of_eq g16)))
  have f77 : Arv Z h71 b1 k2 .char (9 : Int32) [(.int (114 : Int32)), (.int (101 : Int32)), (.int (100 : Int32)), (.int (105 : Int32)), (.int (114 : Int32)), (.int (101 : Int32)), (.int (99 : Int32)), (.int (116 : Int32)), (.int (115 : Int32))] (.int 0) := f68.other W74 z21
  have f78 : Arv Z h71 a14 k15 .char (8 : Int32) [(.int (114 : Int32)), (.int (101 : Int32)), (.int (100 : Int32)), (.int (105 : Int32)), (.int (114 : Int32)), (.int (101 : Int32)), (.int (0 : Int32)), (.int (0 : Int32))] (.int 0) := X75
  refine own_iloadN (q := 74) (v := (8 : Int32)) A73 d18_73 rfl ?_
  refine own_bipush (q := 76) A73 (6 : Int32) d18_74 rfl ?_
  refine own_icmpF (q := 79) A73 d18_76 (show (6 : Int32) < (8 : Int32) from by decide) ?_
  refine own_aloadN (q := 80) (v := (.ref a14)) A73 d18_79 rfl rfl ?_
  refine own_bipush (q := 82) A73 (6 : Int32) d18_80 rfl ?_
  refine own_aloadN (q := 83) (v := (.ref b1)) A73 d18_82 rfl rfl ?_
  refine own_bipush (q := 85) A73 (6 : Int32) d18_83 rfl ?_
  refine own_caloadv (q := 86) (v := (.int (99 : Int32))) A73 f77 6 (by decide) (by decide) (by decide) rfl d18_85 ?_
  refine own_stCv (q := 87) A73 f78 6 (by decide) (by decide) (by decide) (Nat.le_of_ble_eq_true rfl) g17 (Or.inr (Or.inr (Or.inr (by obtain ⟨c, q, _⟩ := f78; exact ⟨c, _, q, by decide⟩)))) d18_86 ?_
  intro T79 h80 sl81 A82 W83 X84
  have K85 : Keep h0 h80 [] := K76.wr W83 (Or.inr (Nat.le_trans K11.1 (Nat.le_of_eq g16)))
  have f86 : Arv Z h80 b1 k2 .char (9 : Int32) [(.int (114 : Int32)), (.int (101 : Int32)), (.int (100 : Int32)), (.int (105 : Int32)), (.int (114 : Int32)), (.int (101 : Int32)), (.int (99 : Int32)), (.int (116 : Int32)), (.int (115 : Int32))] (.int 0) := f77.other W83 z21
  have f87 : Arv Z h80 a14 k15 .char (8 : Int32) [(.int (114 : Int32)), (.int (101 : Int32)), (.int (100 : Int32)), (.int (105 : Int32)), (.int (114 : Int32)), (.int (101 : Int32)), (.int (99 : Int32)), (.int (0 : Int32))] (.int 0) := X84
  refine own_iloadN (q := 88) (v := (8 : Int32)) A82 d18_87 rfl ?_
  refine own_bipush (q := 90) A82 (7 : Int32) d18_88 rfl ?_
  refine own_icmpF (q := 93) A82 d18_90 (show (7 : Int32) < (8 : Int32) from by decide) ?_
  refine own_aloadN (q := 94) (v := (.ref a14)) A82 d18_93 rfl rfl ?_
  refine own_bipush (q := 96) A82 (7 : Int32) d18_94 rfl ?_
  refine own_aloadN (q := 97) (v := (.ref b1)) A82 d18_96 rfl rfl ?_
  refine own_bipush (q := 99) A82 (7 : Int32) d18_97 rfl ?_
  refine own_caloadv (q := 100) (v := (.int (116 : Int32))) A82 f86 7 (by decide) (by decide) (by decide) rfl d18_99 ?_
  refine own_stCv (q := 101) A82 f87 7 (by decide) (by decide) (by decide) (Nat.le_of_ble_eq_true rfl) g17 (Or.inr (Or.inr (Or.inr (by obtain ⟨c, q, _⟩ := f87; exact ⟨c, _, q, by decide⟩)))) d18_100 ?_
  intro T88 h89 sl90 A91 W92 X93
  have K94 : Keep h0 h89 [] := K85.wr W92 (Or.inr (Nat.le_trans K11.1 (Nat.le_of_eq g16)))
  have f95 : Arv Z h89 b1 k2 .char (9 : Int32) [(.int (114 : Int32)), (.int (101 : Int32)), (.int (100 : Int32)), (.int (105 : Int32)), (.int (114 : Int32)), (.int (101 : Int32)), (.int (99 : Int32)), (.int (116 : Int32)), (.int (115 : Int32))] (.int 0) := f86.other W92 z21
  have f96 : Arv Z h89 a14 k15 .char (8 : Int32) [(.int (114 : Int32)), (.int (101 : Int32)), (.int (100 : Int32)), (.int (105 : Int32)), (.int (114 : Int32)), (.int (101 : Int32)), (.int (99 : Int32)), (.int (116 : Int32))] (.int 0) := X93
  refine own_iloadN (q := 102) (v := (8 : Int32)) A91 d18_101 rfl ?_
  refine own_bipush (q := 104) A91 (8 : Int32) d18_102 rfl ?_
  refine own_icmpT (q := 115) A91 d18_104 (show ¬ (8 : Int32) < (8 : Int32) from by decide) ?_
  refine own_iloadN (q := 116) (v := (8 : Int32)) A91 d18_115 rfl ?_
  refine own_bipush (q := 118) A91 (9 : Int32) d18_116 rfl ?_
  refine own_icmpT (q := 126) A91 d18_118 (show ¬ (9 : Int32) < (8 : Int32) from by decide) ?_
  refine own_aloadN (q := 127) (v := (.ref a14)) A91 d18_126 rfl rfl ?_
  exact own_retA A91 hQ rfl rfl rfl d18_127 ⟨a14, _, rfl, g17, (Nat.le_trans K11.1 (Nat.le_of_eq g16)), K94, f96⟩
set_option maxRecDepth 65536 in
set_option maxHeartbeats 40000000 in
theorem rm_pre9 (l : Launch) (Z : State) (a0 : Array Value) (hw : ∀ d ∈ tables_1, d.before a0 Z = true) (zc : Int32) (dA uA : Addr) (c : Int32) (h0 : Heap) (n0 : Nat) (O0 : Old Z n0 h0) (hEL : EW Z a0 consts_1) (SC : Sta Z Z.heap "java/lang/String" "COMPACT_STRINGS" "Z" (.int zc)) (hz : ¬ zc = 0) (SD : Sta Z Z.heap "com/example/linkfield/linkfield/core/Verdict" "DEAD" "Lcom/example/linkfield/linkfield/core/Verdict;" (.ref dA)) (SU : Sta Z Z.heap "com/example/linkfield/linkfield/core/Verdict" "UNREACHABLE" "Lcom/example/linkfield/linkfield/core/Verdict;" (.ref uA)) (hc0 : ¬ c < 0) (hc1 : ¬ (255 : Int32) < c) (hnc : nar .char c = c) :
    own_Met true l Z n0 consts_1 [] (⟨"com/example/linkfield/linkfield/core/HttpCheckUnansweredPinLaw", "prefix", "(IC)[C"⟩ : MethodName) method_3_code 4 (some (.array .char)) [] ({ frames := 1, cells := 2, slots := 18, locals := 11 } : Room) #[(.int (9 : Int32)), (.int c)] h0 (fun v h => ∃ (b : Addr) (k : ClassId), v = some (.ref b) ∧ n0 ≤ b ∧ h0.size ≤ b ∧ Keep h0 h [] ∧ Arv Z h b k .char 9 [(.int (114 : Int32)), (.int (101 : Int32)), (.int (100 : Int32)), (.int (105 : Int32)), (.int (114 : Int32)), (.int (101 : Int32)), (.int (99 : Int32)), (.int (116 : Int32)), (.int (115 : Int32))] (.int 0)) := by
  refine own_enter (a0 := a0) (own := "com/example/linkfield/linkfield/core/HttpCheckUnansweredPinLaw") (nm := "prefix") (Ls := #[.val (.int (9 : Int32)), .val (.int c), .unset, .unset]) own_pn0 O0 hEL (fun m => by first | (simp [entryFrame, mkF, argsToLocals, Value.category, maxLocals]; done) | rfl) ?_
  intro p e s m args below meth cde T0 Q hQ A0
  show own_Run p e below Q m T0 0 #[.val (.int (9 : Int32)), .val (.int c), .unset, .unset] []
  refine own_staticW (q := 3) (W := 0) (argsL := []) (rest := []) A0 (hw _ (List.mem_of_getElem? (i := 0) rfl)) (hw _ (List.mem_of_getElem? (i := 1) rfl)) (hw _ (List.mem_of_getElem? (i := 2) rfl)) (hw _ (List.mem_of_getElem? (i := 3) rfl)) (by decide) (own_payW (rm_word l Z a0 hw zc dA uA  h0 n0 A0.old hEL SC hz SD SU ) (hw _ (List.mem_of_getElem? (i := 3) rfl)) (hw _ (List.mem_of_getElem? (i := 2) rfl)) (by decide) (by decide)) (fun _ z => nomatch z) (Nat.le_of_eq rfl) own_pd0 rfl rfl rfl d18_0 (by decide) (by decide) ?_
  rintro v7 T8 h9 A10 ⟨b1, k2, rfl, g3, g4, K5, V6⟩
  show own_Run p e below Q m T8 3 #[.val (.int (9 : Int32)), .val (.int c), .unset, .unset] [(.ref b1)]
  have K11 : Keep h0 h9 [] := (Keep.refl h0 []).trans K5 all0
  refine own_astoreN (q := 4) (L' := #[.val (.int (9 : Int32)), .val (.int c), .val (.ref b1), .unset]) A10 d18_3 rfl rfl ?_
  refine own_iloadN (q := 5) (v := (9 : Int32)) A10 d18_4 rfl ?_
  refine own_newPv (q := 7) (ty := .char) (dv := .int 0) A10 rfl rfl (hw _ (List.mem_of_getElem? (i := 4) rfl)) d18_5 9 (by decide) (by decide) (by decide) (by decide) (by decide) ?_
  intro T12 h13 a14 k15 g16 g17 A18 E19 X20
  have z21 : b1 ≠ a14 := Nat.ne_of_lt (Nat.lt_of_lt_of_le V6.lt (Nat.le_of_eq g16))
  have K22 : Keep h0 h13 [] := K11.ext E19
  have f23 : Arv Z h13 b1 k2 .char (9 : Int32) [(.int (114 : Int32)), (.int (101 : Int32)), (.int (100 : Int32)), (.int (105 : Int32)), (.int (114 : Int32)), (.int (101 : Int32)), (.int (99 : Int32)), (.int (116 : Int32)), (.int (115 : Int32))] (.int 0) := V6.ext E19
  have f24 : Arv Z h13 a14 k15 .char (9 : Int32) [(.int (0 : Int32)), (.int (0 : Int32)), (.int (0 : Int32)), (.int (0 : Int32)), (.int (0 : Int32)), (.int (0 : Int32)), (.int (0 : Int32)), (.int (0 : Int32)), (.int (0 : Int32))] (.int 0) := X20
  refine own_astoreN (q := 8) (L' := #[.val (.int (9 : Int32)), .val (.int c), .val (.ref b1), .val (.ref a14)]) A18 d18_7 rfl rfl ?_
  refine own_iloadN (q := 9) (v := (9 : Int32)) A18 d18_8 rfl ?_
  refine own_ifcF (q := 12) A18 d18_9 (show (0 : Int32) < (9 : Int32) from by decide) ?_
  refine own_aloadN (q := 13) (v := (.ref a14)) A18 d18_12 rfl rfl ?_
  refine own_iconst (q := 14) A18 (0 : Int32) d18_13 rfl ?_
  refine own_aloadN (q := 15) (v := (.ref b1)) A18 d18_14 rfl rfl ?_
  refine own_iconst (q := 16) A18 (0 : Int32) d18_15 rfl ?_
  refine own_caloadv (q := 17) (v := (.int (114 : Int32))) A18 f23 0 (by decide) (by decide) (by decide) rfl d18_16 ?_
  refine own_stCv (q := 18) A18 f24 0 (by decide) (by decide) (by decide) (Nat.le_of_ble_eq_true rfl) g17 (Or.inr (Or.inr (Or.inr (by obtain ⟨c, q, _⟩ := f24; exact ⟨c, _, q, by decide⟩)))) d18_17 ?_
  intro T25 h26 sl27 A28 W29 X30
  have K31 : Keep h0 h26 [] := K22.wr W29 (Or.inr (Nat.le_trans K11.1 (Nat.le_of_eq g16)))
  have f32 : Arv Z h26 b1 k2 .char (9 : Int32) [(.int (114 : Int32)), (.int (101 : Int32)), (.int (100 : Int32)), (.int (105 : Int32)), (.int (114 : Int32)), (.int (101 : Int32)), (.int (99 : Int32)), (.int (116 : Int32)), (.int (115 : Int32))] (.int 0) := f23.other W29 z21
  have f33 : Arv Z h26 a14 k15 .char (9 : Int32) [(.int (114 : Int32)), (.int (0 : Int32)), (.int (0 : Int32)), (.int (0 : Int32)), (.int (0 : Int32)), (.int (0 : Int32)), (.int (0 : Int32)), (.int (0 : Int32)), (.int (0 : Int32))] (.int 0) := X30
  refine own_iloadN (q := 19) (v := (9 : Int32)) A28 d18_18 rfl ?_
  refine own_iconst (q := 20) A28 (1 : Int32) d18_19 rfl ?_
  refine own_icmpF (q := 23) A28 d18_20 (show (1 : Int32) < (9 : Int32) from by decide) ?_
  refine own_aloadN (q := 24) (v := (.ref a14)) A28 d18_23 rfl rfl ?_
  refine own_iconst (q := 25) A28 (1 : Int32) d18_24 rfl ?_
  refine own_aloadN (q := 26) (v := (.ref b1)) A28 d18_25 rfl rfl ?_
  refine own_iconst (q := 27) A28 (1 : Int32) d18_26 rfl ?_
  refine own_caloadv (q := 28) (v := (.int (101 : Int32))) A28 f32 1 (by decide) (by decide) (by decide) rfl d18_27 ?_
  refine own_stCv (q := 29) A28 f33 1 (by decide) (by decide) (by decide) (Nat.le_of_ble_eq_true rfl) g17 (Or.inr (Or.inr (Or.inr (by obtain ⟨c, q, _⟩ := f33; exact ⟨c, _, q, by decide⟩)))) d18_28 ?_
  intro T34 h35 sl36 A37 W38 X39
  have K40 : Keep h0 h35 [] := K31.wr W38 (Or.inr (Nat.le_trans K11.1 (Nat.le_of_eq g16)))
  have f41 : Arv Z h35 b1 k2 .char (9 : Int32) [(.int (114 : Int32)), (.int (101 : Int32)), (.int (100 : Int32)), (.int (105 : Int32)), (.int (114 : Int32)), (.int (101 : Int32)), (.int (99 : Int32)), (.int (116 : Int32)), (.int (115 : Int32))] (.int 0) := f32.other W38 z21
  have f42 : Arv Z h35 a14 k15 .char (9 : Int32) [(.int (114 : Int32)), (.int (101 : Int32)), (.int (0 : Int32)), (.int (0 : Int32)), (.int (0 : Int32)), (.int (0 : Int32)), (.int (0 : Int32)), (.int (0 : Int32)), (.int (0 : Int32))] (.int 0) := X39
  refine own_iloadN (q := 30) (v := (9 : Int32)) A37 d18_29 rfl ?_
  refine own_iconst (q := 31) A37 (2 : Int32) d18_30 rfl ?_
  refine own_icmpF (q := 34) A37 d18_31 (show (2 : Int32) < (9 : Int32) from by decide) ?_
  refine own_aloadN (q := 35) (v := (.ref a14)) A37 d18_34 rfl rfl ?_
  refine own_iconst (q := 36) A37 (2 : Int32) d18_35 rfl ?_
  refine own_aloadN (q := 37) (v := (.ref b1)) A37 d18_36 rfl rfl ?_
  refine own_iconst (q := 38) A37 (2 : Int32) d18_37 rfl ?_
  refine own_caloadv (q := 39) (v := (.int (100 : Int32))) A37 f41 2 (by decide) (by decide) (by decide) rfl d18_38 ?_
  refine own_stCv (q := 40) A37 f42 2 (by decide) (by decide) (by decide) (Nat.le_of_ble_eq_true rfl) g17 (Or.inr (Or.inr (Or.inr (by obtain ⟨c, q, _⟩ := f42; exact ⟨c, _, q, by decide⟩)))) d18_39 ?_
  intro T43 h44 sl45 A46 W47 X48
  have K49 : Keep h0 h44 [] := K40.wr W47 (Or.inr (Nat.le_trans K11.1 (Nat.le_of_eq g16)))
  have f50 : Arv Z h44 b1 k2 .char (9 : Int32) [(.int (114 : Int32)), (.int (101 : Int32)), (.int (100 : Int32)), (.int (105 : Int32)), (.int (114 : Int32)), (.int (101 : Int32)), (.int (99 : Int32)), (.int (116 : Int32)), (.int (115 : Int32))] (.int 0) := f41.other W47 z21
  have f51 : Arv Z h44 a14 k15 .char (9 : Int32) [(.int (114 : Int32)), (.int (101 : Int32)), (.int (100 : Int32)), (.int (0 : Int32)), (.int (0 : Int32)), (.int (0 : Int32)), (.int (0 : Int32)), (.int (0 : Int32)), (.int (0 : Int32))] (.int 0) := X48
  refine own_iloadN (q := 41) (v := (9 : Int32)) A46 d18_40 rfl ?_
  refine own_iconst (q := 42) A46 (3 : Int32) d18_41 rfl ?_
  refine own_icmpF (q := 45) A46 d18_42 (show (3 : Int32) < (9 : Int32) from by decide) ?_
  refine own_aloadN (q := 46) (v := (.ref a14)) A46 d18_45 rfl rfl ?_
  refine own_iconst (q := 47) A46 (3 : Int32) d18_46 rfl ?_
  refine own_aloadN (q := 48) (v := (.ref b1)) A46 d18_47 rfl rfl ?_
  refine own_iconst (q := 49) A46 (3 : Int32) d18_48 rfl ?_
  refine own_caloadv (q := 50) (v := (.int (105 : Int32))) A46 f50 3 (by decide) (by decide) (by decide) rfl d18_49 ?_
  refine own_stCv (q := 51) A46 f51 3 (by decide) (by decide) (by decide) (Nat.le_of_ble_eq_true rfl) g17 (Or.inr (Or.inr (Or.inr (by obtain ⟨c, q, _⟩ := f51; exact ⟨c, _, q, by decide⟩)))) d18_50 ?_
  intro T52 h53 sl54 A55 W56 X57
  have K58 : Keep h0 h53 [] := K49.wr W56 (Or.inr (Nat.le_trans K11.1 (Nat.le_of_eq g16)))
  have f59 : Arv Z h53 b1 k2 .char (9 : Int32) [(.int (114 : Int32)), (.int (101 : Int32)), (.int (100 : Int32)), (.int (105 : Int32)), (.int (114 : Int32)), (.int (101 : Int32)), (.int (99 : Int32)), (.int (116 : Int32)), (.int (115 : Int32))] (.int 0) := f50.other W56 z21
  have f60 : Arv Z h53 a14 k15 .char (9 : Int32) [(.int (114 : Int32)), (.int (101 : Int32)), (.int (100 : Int32)), (.int (105 : Int32)), (.int (0 : Int32)), (.int (0 : Int32)), (.int (0 : Int32)), (.int (0 : Int32)), (.int (0 : Int32))] (.int 0) := X57
  refine own_iloadN (q := 52) (v := (9 : Int32)) A55 d18_51 rfl ?_
  refine own_iconst (q := 53) A55 (4 : Int32) d18_52 rfl ?_
  refine own_icmpF (q := 56) A55 d18_53 (show (4 : Int32) < (9 : Int32) from by decide) ?_
  refine own_aloadN (q := 57) (v := (.ref a14)) A55 d18_56 rfl rfl ?_
  refine own_iconst (q := 58) A55 (4 : Int32) d18_57 rfl ?_
  refine own_aloadN (q := 59) (v := (.ref b1)) A55 d18_58 rfl rfl ?_
  refine own_iconst (q := 60) A55 (4 : Int32) d18_59 rfl ?_
  refine own_caloadv (q := 61) (v := (.int (114 : Int32))) A55 f59 4 (by decide) (by decide) (by decide) rfl d18_60 ?_
  refine own_stCv (q := 62) A55 f60 4 (by decide) (by decide) (by decide) (Nat.le_of_ble_eq_true rfl) g17 (Or.inr (Or.inr (Or.inr (by obtain ⟨c, q, _⟩ := f60; exact ⟨c, _, q, by decide⟩)))) d18_61 ?_
  intro T61 h62 sl63 A64 W65 X66
  have K67 : Keep h0 h62 [] := K58.wr W65 (Or.inr (Nat.le_trans K11.1 (Nat.le_of_eq g16)))
  have f68 : Arv Z h62 b1 k2 .char (9 : Int32) [(.int (114 : Int32)), (.int (101 : Int32)), (.int (100 : Int32)), (.int (105 : Int32)), (.int (114 : Int32)), (.int (101 : Int32)), (.int (99 : Int32)), (.int (116 : Int32)), (.int (115 : Int32))] (.int 0) := f59.other W65 z21
  have f69 : Arv Z h62 a14 k15 .char (9 : Int32) [(.int (114 : Int32)), (.int (101 : Int32)), (.int (100 : Int32)), (.int (105 : Int32)), (.int (114 : Int32)), (.int (0 : Int32)), (.int (0 : Int32)), (.int (0 : Int32)), (.int (0 : Int32))] (.int 0) := X66
  refine own_iloadN (q := 63) (v := (9 : Int32)) A64 d18_62 rfl ?_
  refine own_iconst (q := 64) A64 (5 : Int32) d18_63 rfl ?_
  refine own_icmpF (q := 67) A64 d18_64 (show (5 : Int32) < (9 : Int32) from by decide) ?_
  refine own_aloadN (q := 68) (v := (.ref a14)) A64 d18_67 rfl rfl ?_
  refine own_iconst (q := 69) A64 (5 : Int32) d18_68 rfl ?_
  refine own_aloadN (q := 70) (v := (.ref b1)) A64 d18_69 rfl rfl ?_
  refine own_iconst (q := 71) A64 (5 : Int32) d18_70 rfl ?_
  refine own_caloadv (q := 72) (v := (.int (101 : Int32))) A64 f68 5 (by decide) (by decide) (by decide) rfl d18_71 ?_
  refine own_stCv (q := 73) A64 f69 5 (by decide) (by decide) (by decide) (Nat.le_of_ble_eq_true rfl) g17 (Or.inr (Or.inr (Or.inr (by obtain ⟨c, q, _⟩ := f69; exact ⟨c, _, q, by decide⟩)))) d18_72 ?_
  intro T70 h71 sl72 A73 W74 X75
  have K76 : Keep h0 h71 [] := K67.wr W74 (Or.inr (Nat.le_trans K11.1 (Nat.le_of_eq g16)))
  have f77 : Arv Z h71 b1 k2 .char (9 : Int32) [(.int (114 : Int32)), (.int (101 : Int32)), (.int (100 : Int32)), (.int (105 : Int32)), (.int (114 : Int32)), (.int (101 : Int32)), (.int (99 : Int32)), (.int (116 : Int32)), (.int (115 : Int32))] (.int 0) := f68.other W74 z21
  have f78 : Arv Z h71 a14 k15 .char (9 : Int32) [(.int (114 : Int32)), (.int (101 : Int32)), (.int (100 : Int32)), (.int (105 : Int32)), (.int (114 : Int32)), (.int (101 : Int32)), (.int (0 : Int32)), (.int (0 : Int32)), (.int (0 : Int32))] (.int 0) := X75
  refine own_iloadN (q := 74) (v := (9 : Int32)) A73 d18_73 rfl ?_
  refine own_bipush (q := 76) A73 (6 : Int32) d18_74 rfl ?_
  refine own_icmpF (q := 79) A73 d18_76 (show (6 : Int32) < (9 : Int32) from by decide) ?_
  refine own_aloadN (q := 80) (v := (.ref a14)) A73 d18_79 rfl rfl ?_
  refine own_bipush (q := 82) A73 (6 : Int32) d18_80 rfl ?_
  refine own_aloadN (q := 83) (v := (.ref b1)) A73 d18_82 rfl rfl ?_
  refine own_bipush (q := 85) A73 (6 : Int32) d18_83 rfl ?_
  refine own_caloadv (q := 86) (v := (.int (99 : Int32))) A73 f77 6 (by decide) (by decide) (by decide) rfl d18_85 ?_
  refine own_stCv (q := 87) A73 f78 6 (by decide) (by decide) (by decide) (Nat.le_of_ble_eq_true rfl) g17 (Or.inr (Or.inr (Or.inr (by obtain ⟨c, q, _⟩ := f78; exact ⟨c, _, q, by decide⟩)))) d18_86 ?_
  intro T79 h80 sl81 A82 W83 X84
  have K85 : Keep h0 h80 [] := K76.wr W83 (Or.inr (Nat.le_trans K11.1 (Nat.le_of_eq g16)))
  have f86 : Arv Z h80 b1 k2 .char (9 : Int32) [(.int (114 : Int32)), (.int (101 : Int32)), (.int (100 : Int32)), (.int (105 : Int32)), (.int (114 : Int32)), (.int (101 : Int32)), (.int (99 : Int32)), (.int (116 : Int32)), (.int (115 : Int32))] (.int 0) := f77.other W83 z21
  have f87 : Arv Z h80 a14 k15 .char (9 : Int32) [(.int (114 : Int32)), (.int (101 : Int32)), (.int (100 : Int32)), (.int (105 : Int32)), (.int (114 : Int32)), (.int (101 : Int32)), (.int (99 : Int32)), (.int (0 : Int32)), (.int (0 : Int32))] (.int 0) := X84
  refine own_iloadN (q := 88) (v := (9 : Int32)) A82 d18_87 rfl ?_
  refine own_bipush (q := 90) A82 (7 : Int32) d18_88 rfl ?_
  refine own_icmpF (q := 93) A82 d18_90 (show (7 : Int32) < (9 : Int32) from by decide) ?_
  refine own_aloadN (q := 94) (v := (.ref a14)) A82 d18_93 rfl rfl ?_
  refine own_bipush (q := 96) A82 (7 : Int32) d18_94 rfl ?_
  refine own_aloadN (q := 97) (v := (.ref b1)) A82 d18_96 rfl rfl ?_
  refine own_bipush (q := 99) A82 (7 : Int32) d18_97 rfl ?_
  refine own_caloadv (q := 100) (v := (.int (116 : Int32))) A82 f86 7 (by decide) (by decide) (by decide) rfl d18_99 ?_
  refine own_stCv (q := 101) A82 f87 7 (by decide) (by decide) (by decide) (Nat.le_of_ble_eq_true rfl) g17 (Or.inr (Or.inr (Or.inr (by obtain ⟨c, q, _⟩ := f87; exact ⟨c, _, q, by decide⟩)))) d18_100 ?_
  intro T88 h89 sl90 A91 W92 X93
  have K94 : Keep h0 h89 [] := K85.wr W92 (Or.inr (Nat.le_trans K11.1 (Nat.le_of_eq g16)))
  have f95 : Arv Z h89 b1 k2 .char (9 : Int32) [(.int (114 : Int32)), (.int (101 : Int32)), (.int (100 : Int32)), (.int (105 : Int32)), (.int (114 : Int32)), (.int (101 : Int32)), (.int (99 : Int32)), (.int (116 : Int32)), (.int (115 : Int32))] (.int 0) := f86.other W92 z21
  have f96 : Arv Z h89 a14 k15 .char (9 : Int32) [(.int (114 : Int32)), (.int (101 : Int32)), (.int (100 : Int32)), (.int (105 : Int32)), (.int (114 : Int32)), (.int (101 : Int32)), (.int (99 : Int32)), (.int (116 : Int32)), (.int (0 : Int32))] (.int 0) := X93
  refine own_iloadN (q := 102) (v := (9 : Int32)) A91 d18_101 rfl ?_
  refine own_bipush (q := 104) A91 (8 : Int32) d18_102 rfl ?_
  refine own_icmpF (q := 107) A91 d18_104 (show (8 : Int32) < (9 : Int32) from by decide) ?_
  refine own_aloadN (q := 108) (v := (.ref a14)) A91 d18_107 rfl rfl ?_
  refine own_bipush (q := 110) A91 (8 : Int32) d18_108 rfl ?_
  refine own_aloadN (q := 111) (v := (.ref b1)) A91 d18_110 rfl rfl ?_
  refine own_bipush (q := 113) A91 (8 : Int32) d18_111 rfl ?_
  refine own_caloadv (q := 114) (v := (.int (115 : Int32))) A91 f95 8 (by decide) (by decide) (by decide) rfl d18_113 ?_
  refine own_stCv (q := 115) A91 f96 8 (by decide) (by decide) (by decide) (Nat.le_of_ble_eq_true rfl) g17 (Or.inr (Or.inr (Or.inr (by obtain ⟨c, q, _⟩ := f96; exact ⟨c, _, q, by decide⟩)))) d18_114 ?_
  intro T97 h98 sl99 A100 W101 X102
  have K103 : Keep h0 h98 [] := K94.wr W101 (Or.inr (Nat.le_trans K11.1 (Nat.le_of_eq g16)))
  have f104 : Arv Z h98 b1 k2 .char (9 : Int32) [(.int (114 : Int32)), (.int (101 : Int32)), (.int (100 : Int32)), (.int (105 : Int32)), (.int (114 : Int32)), (.int (101 : Int32)), (.int (99 : Int32)), (.int (116 : Int32)), (.int (115 : Int32))] (.int 0) := f95.other W101 z21
  have f105 : Arv Z h98 a14 k15 .char (9 : Int32) [(.int (114 : Int32)), (.int (101 : Int32)), (.int (100 : Int32)), (.int (105 : Int32)), (.int (114 : Int32)), (.int (101 : Int32)), (.int (99 : Int32)), (.int (116 : Int32)), (.int (115 : Int32))] (.int 0) := X102
  refine own_iloadN (q := 116) (v := (9 : Int32)) A100 d18_115 rfl ?_
  refine own_bipush (q := 118) A100 (9 : Int32) d18_116 rfl ?_
  refine own_icmpT (q := 126) A100 d18_118 (show ¬ (9 : Int32) < (9 : Int32) from by decide) ?_
  refine own_aloadN (q := 127) (v := (.ref a14)) A100 d18_126 rfl rfl ?_
  exact own_retA A100 hQ rfl rfl rfl d18_127 ⟨a14, _, rfl, g17, (Nat.le_trans K11.1 (Nat.le_of_eq g16)), K103, f105⟩
set_option maxRecDepth 65536 in
set_option maxHeartbeats 40000000 in
theorem rm_pre10 (l : Launch) (Z : State) (a0 : Array Value) (hw : ∀ d ∈ tables_1, d.before a0 Z = true) (zc : Int32) (dA uA : Addr) (c : Int32) (h0 : Heap) (n0 : Nat) (O0 : Old Z n0 h0) (hEL : EW Z a0 consts_1) (SC : Sta Z Z.heap "java/lang/String" "COMPACT_STRINGS" "Z" (.int zc)) (hz : ¬ zc = 0) (SD : Sta Z Z.heap "com/example/linkfield/linkfield/core/Verdict" "DEAD" "Lcom/example/linkfield/linkfield/core/Verdict;" (.ref dA)) (SU : Sta Z Z.heap "com/example/linkfield/linkfield/core/Verdict" "UNREACHABLE" "Lcom/example/linkfield/linkfield/core/Verdict;" (.ref uA)) (hc0 : ¬ c < 0) (hc1 : ¬ (255 : Int32) < c) (hnc : nar .char c = c) :
    own_Met true l Z n0 consts_1 [] (⟨"com/example/linkfield/linkfield/core/HttpCheckUnansweredPinLaw", "prefix", "(IC)[C"⟩ : MethodName) method_3_code 4 (some (.array .char)) [] ({ frames := 1, cells := 2, slots := 19, locals := 11 } : Room) #[(.int (10 : Int32)), (.int c)] h0 (fun v h => ∃ (b : Addr) (k : ClassId), v = some (.ref b) ∧ n0 ≤ b ∧ h0.size ≤ b ∧ Keep h0 h [] ∧ Arv Z h b k .char 10 [(.int (114 : Int32)), (.int (101 : Int32)), (.int (100 : Int32)), (.int (105 : Int32)), (.int (114 : Int32)), (.int (101 : Int32)), (.int (99 : Int32)), (.int (116 : Int32)), (.int (115 : Int32)), (.int c)] (.int 0)) := by
  refine own_enter (a0 := a0) (own := "com/example/linkfield/linkfield/core/HttpCheckUnansweredPinLaw") (nm := "prefix") (Ls := #[.val (.int (10 : Int32)), .val (.int c), .unset, .unset]) own_pn0 O0 hEL (fun m => by first | (simp [entryFrame, mkF, argsToLocals, Value.category, maxLocals]; done) | rfl) ?_
  intro p e s m args below meth cde T0 Q hQ A0
  show own_Run p e below Q m T0 0 #[.val (.int (10 : Int32)), .val (.int c), .unset, .unset] []
  refine own_staticW (q := 3) (W := 0) (argsL := []) (rest := []) A0 (hw _ (List.mem_of_getElem? (i := 0) rfl)) (hw _ (List.mem_of_getElem? (i := 1) rfl)) (hw _ (List.mem_of_getElem? (i := 2) rfl)) (hw _ (List.mem_of_getElem? (i := 3) rfl)) (by decide) (own_payW (rm_word l Z a0 hw zc dA uA  h0 n0 A0.old hEL SC hz SD SU ) (hw _ (List.mem_of_getElem? (i := 3) rfl)) (hw _ (List.mem_of_getElem? (i := 2) rfl)) (by decide) (by decide)) (fun _ z => nomatch z) (Nat.le_of_eq rfl) own_pd0 rfl rfl rfl d18_0 (by decide) (by decide) ?_
  rintro v7 T8 h9 A10 ⟨b1, k2, rfl, g3, g4, K5, V6⟩
  show own_Run p e below Q m T8 3 #[.val (.int (10 : Int32)), .val (.int c), .unset, .unset] [(.ref b1)]
  have K11 : Keep h0 h9 [] := (Keep.refl h0 []).trans K5 all0
  refine own_astoreN (q := 4) (L' := #[.val (.int (10 : Int32)), .val (.int c), .val (.ref b1), .unset]) A10 d18_3 rfl rfl ?_
  refine own_iloadN (q := 5) (v := (10 : Int32)) A10 d18_4 rfl ?_
  refine own_newPv (q := 7) (ty := .char) (dv := .int 0) A10 rfl rfl (hw _ (List.mem_of_getElem? (i := 4) rfl)) d18_5 10 (by decide) (by decide) (by decide) (by decide) (by decide) ?_
  intro T12 h13 a14 k15 g16 g17 A18 E19 X20
  have z21 : b1 ≠ a14 := Nat.ne_of_lt (Nat.lt_of_lt_of_le V6.lt (Nat.le_of_eq g16))
  have K22 : Keep h0 h13 [] := K11.ext E19
  have f23 : Arv Z h13 b1 k2 .char (9 : Int32) [(.int (114 : Int32)), (.int (101 : Int32)), (.int (100 : Int32)), (.int (105 : Int32)), (.int (114 : Int32)), (.int (101 : Int32)), (.int (99 : Int32)), (.int (116 : Int32)), (.int (115 : Int32))] (.int 0) := V6.ext E19
  have f24 : Arv Z h13 a14 k15 .char (10 : Int32) [(.int (0 : Int32)), (.int (0 : Int32)), (.int (0 : Int32)), (.int (0 : Int32)), (.int (0 : Int32)), (.int (0 : Int32)), (.int (0 : Int32)), (.int (0 : Int32)), (.int (0 : Int32)), (.int (0 : Int32))] (.int 0) := X20
  refine own_astoreN (q := 8) (L' := #[.val (.int (10 : Int32)), .val (.int c), .val (.ref b1), .val (.ref a14)]) A18 d18_7 rfl rfl ?_
  refine own_iloadN (q := 9) (v := (10 : Int32)) A18 d18_8 rfl ?_
  refine own_ifcF (q := 12) A18 d18_9 (show (0 : Int32) < (10 : Int32) from by decide) ?_
  refine own_aloadN (q := 13) (v := (.ref a14)) A18 d18_12 rfl rfl ?_
  refine own_iconst (q := 14) A18 (0 : Int32) d18_13 rfl ?_
  refine own_aloadN (q := 15) (v := (.ref b1)) A18 d18_14 rfl rfl ?_
  refine own_iconst (q := 16) A18 (0 : Int32) d18_15 rfl ?_
  refine own_caloadv (q := 17) (v := (.int (114 : Int32))) A18 f23 0 (by decide) (by decide) (by decide) rfl d18_16 ?_
  refine own_stCv (q := 18) A18 f24 0 (by decide) (by decide) (by decide) (Nat.le_of_ble_eq_true rfl) g17 (Or.inr (Or.inr (Or.inr (by obtain ⟨c, q, _⟩ := f24; exact ⟨c, _, q, by decide⟩)))) d18_17 ?_
  intro T25 h26 sl27 A28 W29 X30
  have K31 : Keep h0 h26 [] := K22.wr W29 (Or.inr (Nat.le_trans K11.1 (Nat.le_of_eq g16)))
  have f32 : Arv Z h26 b1 k2 .char (9 : Int32) [(.int (114 : Int32)), (.int (101 : Int32)), (.int (100 : Int32)), (.int (105 : Int32)), (.int (114 : Int32)), (.int (101 : Int32)), (.int (99 : Int32)), (.int (116 : Int32)), (.int (115 : Int32))] (.int 0) := f23.other W29 z21
  have f33 : Arv Z h26 a14 k15 .char (10 : Int32) [(.int (114 : Int32)), (.int (0 : Int32)), (.int (0 : Int32)), (.int (0 : Int32)), (.int (0 : Int32)), (.int (0 : Int32)), (.int (0 : Int32)), (.int (0 : Int32)), (.int (0 : Int32)), (.int (0 : Int32))] (.int 0) := X30
  refine own_iloadN (q := 19) (v := (10 : Int32)) A28 d18_18 rfl ?_
  refine own_iconst (q := 20) A28 (1 : Int32) d18_19 rfl ?_
  refine own_icmpF (q := 23) A28 d18_20 (show (1 : Int32) < (10 : Int32) from by decide) ?_
  refine own_aloadN (q := 24) (v := (.ref a14)) A28 d18_23 rfl rfl ?_
  refine own_iconst (q := 25) A28 (1 : Int32) d18_24 rfl ?_
  refine own_aloadN (q := 26) (v := (.ref b1)) A28 d18_25 rfl rfl ?_
  refine own_iconst (q := 27) A28 (1 : Int32) d18_26 rfl ?_
  refine own_caloadv (q := 28) (v := (.int (101 : Int32))) A28 f32 1 (by decide) (by decide) (by decide) rfl d18_27 ?_
  refine own_stCv (q := 29) A28 f33 1 (by decide) (by decide) (by decide) (Nat.le_of_ble_eq_true rfl) g17 (Or.inr (Or.inr (Or.inr (by obtain ⟨c, q, _⟩ := f33; exact ⟨c, _, q, by decide⟩)))) d18_28 ?_
  intro T34 h35 sl36 A37 W38 X39
  have K40 : Keep h0 h35 [] := K31.wr W38 (Or.inr (Nat.le_trans K11.1 (Nat.le_of_eq g16)))
  have f41 : Arv Z h35 b1 k2 .char (9 : Int32) [(.int (114 : Int32)), (.int (101 : Int32)), (.int (100 : Int32)), (.int (105 : Int32)), (.int (114 : Int32)), (.int (101 : Int32)), (.int (99 : Int32)), (.int (116 : Int32)), (.int (115 : Int32))] (.int 0) := f32.other W38 z21
  have f42 : Arv Z h35 a14 k15 .char (10 : Int32) [(.int (114 : Int32)), (.int (101 : Int32)), (.int (0 : Int32)), (.int (0 : Int32)), (.int (0 : Int32)), (.int (0 : Int32)), (.int (0 : Int32)), (.int (0 : Int32)), (.int (0 : Int32)), (.int (0 : Int32))] (.int 0) := X39
  refine own_iloadN (q := 30) (v := (10 : Int32)) A37 d18_29 rfl ?_
  refine own_iconst (q := 31) A37 (2 : Int32) d18_30 rfl ?_
  refine own_icmpF (q := 34) A37 d18_31 (show (2 : Int32) < (10 : Int32) from by decide) ?_
  refine own_aloadN (q := 35) (v := (.ref a14)) A37 d18_34 rfl rfl ?_
  refine own_iconst (q := 36) A37 (2 : Int32) d18_35 rfl ?_
  refine own_aloadN (q := 37) (v := (.ref b1)) A37 d18_36 rfl rfl ?_
  refine own_iconst (q := 38) A37 (2 : Int32) d18_37 rfl ?_
  refine own_caloadv (q := 39) (v := (.int (100 : Int32))) A37 f41 2 (by decide) (by decide) (by decide) rfl d18_38 ?_
  refine own_stCv (q := 40) A37 f42 2 (by decide) (by decide) (by decide) (Nat.le_of_ble_eq_true rfl) g17 (Or.inr (Or.inr (Or.inr (by obtain ⟨c, q, _⟩ := f42; exact ⟨c, _, q, by decide⟩)))) d18_39 ?_
  intro T43 h44 sl45 A46 W47 X48
  have K49 : Keep h0 h44 [] := K40.wr W47 (Or.inr (Nat.le_trans K11.1 (Nat.le_of_eq g16)))
  have f50 : Arv Z h44 b1 k2 .char (9 : Int32) [(.int (114 : Int32)), (.int (101 : Int32)), (.int (100 : Int32)), (.int (105 : Int32)), (.int (114 : Int32)), (.int (101 : Int32)), (.int (99 : Int32)), (.int (116 : Int32)), (.int (115 : Int32))] (.int 0) := f41.other W47 z21
  have f51 : Arv Z h44 a14 k15 .char (10 : Int32) [(.int (114 : Int32)), (.int (101 : Int32)), (.int (100 : Int32)), (.int (0 : Int32)), (.int (0 : Int32)), (.int (0 : Int32)), (.int (0 : Int32)), (.int (0 : Int32)), (.int (0 : Int32)), (.int (0 : Int32))] (.int 0) := X48
  refine own_iloadN (q := 41) (v := (10 : Int32)) A46 d18_40 rfl ?_
  refine own_iconst (q := 42) A46 (3 : Int32) d18_41 rfl ?_
  refine own_icmpF (q := 45) A46 d18_42 (show (3 : Int32) < (10 : Int32) from by decide) ?_
  refine own_aloadN (q := 46) (v := (.ref a14)) A46 d18_45 rfl rfl ?_
  refine own_iconst (q := 47) A46 (3 : Int32) d18_46 rfl ?_
  refine own_aloadN (q := 48) (v := (.ref b1)) A46 d18_47 rfl rfl ?_
  refine own_iconst (q := 49) A46 (3 : Int32) d18_48 rfl ?_
  refine own_caloadv (q := 50) (v := (.int (105 : Int32))) A46 f50 3 (by decide) (by decide) (by decide) rfl d18_49 ?_
  refine own_stCv (q := 51) A46 f51 3 (by decide) (by decide) (by decide) (Nat.le_of_ble_eq_true rfl) g17 (Or.inr (Or.inr (Or.inr (by obtain ⟨c, q, _⟩ := f51; exact ⟨c, _, q, by decide⟩)))) d18_50 ?_
  intro T52 h53 sl54 A55 W56 X57
  have K58 : Keep h0 h53 [] := K49.wr W56 (Or.inr (Nat.le_trans K11.1 (Nat.le_of_eq g16)))
  have f59 : Arv Z h53 b1 k2 .char (9 : Int32) [(.int (114 : Int32)), (.int (101 : Int32)), (.int (100 : Int32)), (.int (105 : Int32)), (.int (114 : Int32)), (.int (101 : Int32)), (.int (99 : Int32)), (.int (116 : Int32)), (.int (115 : Int32))] (.int 0) := f50.other W56 z21
  have f60 : Arv Z h53 a14 k15 .char (10 : Int32) [(.int (114 : Int32)), (.int (101 : Int32)), (.int (100 : Int32)), (.int (105 : Int32)), (.int (0 : Int32)), (.int (0 : Int32)), (.int (0 : Int32)), (.int (0 : Int32)), (.int (0 : Int32)), (.int (0 : Int32))] (.int 0) := X57
  refine own_iloadN (q := 52) (v := (10 : Int32)) A55 d18_51 rfl ?_
  refine own_iconst (q := 53) A55 (4 : Int32) d18_52 rfl ?_
  refine own_icmpF (q := 56) A55 d18_53 (show (4 : Int32) < (10 : Int32) from by decide) ?_
  refine own_aloadN (q := 57) (v := (.ref a14)) A55 d18_56 rfl rfl ?_
  refine own_iconst (q := 58) A55 (4 : Int32) d18_57 rfl ?_
  refine own_aloadN (q := 59) (v := (.ref b1)) A55 d18_58 rfl rfl ?_
  refine own_iconst (q := 60) A55 (4 : Int32) d18_59 rfl ?_
  refine own_caloadv (q := 61) (v := (.int (114 : Int32))) A55 f59 4 (by decide) (by decide) (by decide) rfl d18_60 ?_
  refine own_stCv (q := 62) A55 f60 4 (by decide) (by decide) (by decide) (Nat.le_of_ble_eq_true rfl) g17 (Or.inr (Or.inr (Or.inr (by obtain ⟨c, q, _⟩ := f60; exact ⟨c, _, q, by decide⟩)))) d18_61 ?_
  intro T61 h62 sl63 A64 W65 X66
  have K67 : Keep h0 h62 [] := K58.wr W65 (Or.inr (Nat.le_trans K11.1 (Nat.le_of_eq g16)))
  have f68 : Arv Z h62 b1 k2 .char (9 : Int32) [(.int (114 : Int32)), (.int (101 : Int32)), (.int (100 : Int32)), (.int (105 : Int32)), (.int (114 : Int32)), (.int (101 : Int32)), (.int (99 : Int32)), (.int (116 : Int32)), (.int (115 : Int32))] (.int 0) := f59.other W65 z21
  have f69 : Arv Z h62 a14 k15 .char (10 : Int32) [(.int (114 : Int32)), (.int (101 : Int32)), (.int (100 : Int32)), (.int (105 : Int32)), (.int (114 : Int32)), (.int (0 : Int32)), (.int (0 : Int32)), (.int (0 : Int32)), (.int (0 : Int32)), (.int (0 : Int32))] (.int 0) := X66
  refine own_iloadN (q := 63) (v := (10 : Int32)) A64 d18_62 rfl ?_
  refine own_iconst (q := 64) A64 (5 : Int32) d18_63 rfl ?_
  refine own_icmpF (q := 67) A64 d18_64 (show (5 : Int32) < (10 : Int32) from by decide) ?_
  refine own_aloadN (q := 68) (v := (.ref a14)) A64 d18_67 rfl rfl ?_
  refine own_iconst (q := 69) A64 (5 : Int32) d18_68 rfl ?_
  refine own_aloadN (q := 70) (v := (.ref b1)) A64 d18_69 rfl rfl ?_
  refine own_iconst (q := 71) A64 (5 : Int32) d18_70 rfl ?_
  refine own_caloadv (q := 72) (v := (.int (101 : Int32))) A64 f68 5 (by decide) (by decide) (by decide) rfl d18_71 ?_
  refine own_stCv (q := 73) A64 f69 5 (by decide) (by decide) (by decide) (Nat.le_of_ble_eq_true rfl) g17 (Or.inr (Or.inr (Or.inr (by obtain ⟨c, q, _⟩ := f69; exact ⟨c, _, q, by decide⟩)))) d18_72 ?_
  intro T70 h71 sl72 A73 W74 X75
  have K76 : Keep h0 h71 [] := K67.wr W74 (Or.inr (Nat.le_trans K11.1 (Nat.le_of_eq g16)))
  have f77 : Arv Z h71 b1 k2 .char (9 : Int32) [(.int (114 : Int32)), (.int (101 : Int32)), (.int (100 : Int32)), (.int (105 : Int32)), (.int (114 : Int32)), (.int (101 : Int32)), (.int (99 : Int32)), (.int (116 : Int32)), (.int (115 : Int32))] (.int 0) := f68.other W74 z21
  have f78 : Arv Z h71 a14 k15 .char (10 : Int32) [(.int (114 : Int32)), (.int (101 : Int32)), (.int (100 : Int32)), (.int (105 : Int32)), (.int (114 : Int32)), (.int (101 : Int32)), (.int (0 : Int32)), (.int (0 : Int32)), (.int (0 : Int32)), (.int (0 : Int32))] (.int 0) := X75
  refine own_iloadN (q := 74) (v := (10 : Int32)) A73 d18_73 rfl ?_
  refine own_bipush (q := 76) A73 (6 : Int32) d18_74 rfl ?_
  refine own_icmpF (q := 79) A73 d18_76 (show (6 : Int32) < (10 : Int32) from by decide) ?_
  refine own_aloadN (q := 80) (v := (.ref a14)) A73 d18_79 rfl rfl ?_
  refine own_bipush (q := 82) A73 (6 : Int32) d18_80 rfl ?_
  refine own_aloadN (q := 83) (v := (.ref b1)) A73 d18_82 rfl rfl ?_
  refine own_bipush (q := 85) A73 (6 : Int32) d18_83 rfl ?_
  refine own_caloadv (q := 86) (v := (.int (99 : Int32))) A73 f77 6 (by decide) (by decide) (by decide) rfl d18_85 ?_
  refine own_stCv (q := 87) A73 f78 6 (by decide) (by decide) (by decide) (Nat.le_of_ble_eq_true rfl) g17 (Or.inr (Or.inr (Or.inr (by obtain ⟨c, q, _⟩ := f78; exact ⟨c, _, q, by decide⟩)))) d18_86 ?_
  intro T79 h80 sl81 A82 W83 X84
  have K85 : Keep h0 h80 [] := K76.wr W83 (Or.inr (Nat.le_trans K11.1 (Nat.le_of_eq g16)))
  have f86 : Arv Z h80 b1 k2 .char (9 : Int32) [(.int (114 : Int32)), (.int (101 : Int32)), (.int (100 : Int32)), (.int (105 : Int32)), (.int (114 : Int32)), (.int (101 : Int32)), (.int (99 : Int32)), (.int (116 : Int32)), (.int (115 : Int32))] (.int 0) := f77.other W83 z21
  have f87 : Arv Z h80 a14 k15 .char (10 : Int32) [(.int (114 : Int32)), (.int (101 : Int32)), (.int (100 : Int32)), (.int (105 : Int32)), (.int (114 : Int32)), (.int (101 : Int32)), (.int (99 : Int32)), (.int (0 : Int32)), (.int (0 : Int32)), (.int (0 : Int32))] (.int 0) := X84
  refine own_iloadN (q := 88) (v := (10 : Int32)) A82 d18_87 rfl ?_
  refine own_bipush (q := 90) A82 (7 : Int32) d18_88 rfl ?_
  refine own_icmpF (q := 93) A82 d18_90 (show (7 : Int32) < (10 : Int32) from by decide) ?_
  refine own_aloadN (q := 94) (v := (.ref a14)) A82 d18_93 rfl rfl ?_
  refine own_bipush (q := 96) A82 (7 : Int32) d18_94 rfl ?_
  refine own_aloadN (q := 97) (v := (.ref b1)) A82 d18_96 rfl rfl ?_
  refine own_bipush (q := 99) A82 (7 : Int32) d18_97 rfl ?_
  refine own_caloadv (q := 100) (v := (.int (116 : Int32))) A82 f86 7 (by decide) (by decide) (by decide) rfl d18_99 ?_
  refine own_stCv (q := 101) A82 f87 7 (by decide) (by decide) (by decide) (Nat.le_of_ble_eq_true rfl) g17 (Or.inr (Or.inr (Or.inr (by obtain ⟨c, q, _⟩ := f87; exact ⟨c, _, q, by decide⟩)))) d18_100 ?_
  intro T88 h89 sl90 A91 W92 X93
  have K94 : Keep h0 h89 [] := K85.wr W92 (Or.inr (Nat.le_trans K11.1 (Nat.le_of_eq g16)))
  have f95 : Arv Z h89 b1 k2 .char (9 : Int32) [(.int (114 : Int32)), (.int (101 : Int32)), (.int (100 : Int32)), (.int (105 : Int32)), (.int (114 : Int32)), (.int (101 : Int32)), (.int (99 : Int32)), (.int (116 : Int32)), (.int (115 : Int32))] (.int 0) := f86.other W92 z21
  have f96 : Arv Z h89 a14 k15 .char (10 : Int32) [(.int (114 : Int32)), (.int (101 : Int32)), (.int (100 : Int32)), (.int (105 : Int32)), (.int (114 : Int32)), (.int (101 : Int32)), (.int (99 : Int32)), (.int (116 : Int32)), (.int (0 : Int32)), (.int (0 : Int32))] (.int 0) := X93
  refine own_iloadN (q := 102) (v := (10 : Int32)) A91 d18_101 rfl ?_
  refine own_bipush (q := 104) A91 (8 : Int32) d18_102 rfl ?_
  refine own_icmpF (q := 107) A91 d18_104 (show (8 : Int32) < (10 : Int32) from by decide) ?_
  refine own_aloadN (q := 108) (v := (.ref a14)) A91 d18_107 rfl rfl ?_
  refine own_bipush (q := 110) A91 (8 : Int32) d18_108 rfl ?_
  refine own_aloadN (q := 111) (v := (.ref b1)) A91 d18_110 rfl rfl ?_
  refine own_bipush (q := 113) A91 (8 : Int32) d18_111 rfl ?_
  refine own_caloadv (q := 114) (v := (.int (115 : Int32))) A91 f95 8 (by decide) (by decide) (by decide) rfl d18_113 ?_
  refine own_stCv (q := 115) A91 f96 8 (by decide) (by decide) (by decide) (Nat.le_of_ble_eq_true rfl) g17 (Or.inr (Or.inr (Or.inr (by obtain ⟨c, q, _⟩ := f96; exact ⟨c, _, q, by decide⟩)))) d18_114 ?_
  intro T97 h98 sl99 A100 W101 X102
  have K103 : Keep h0 h98 [] := K94.wr W101 (Or.inr (Nat.le_trans K11.1 (Nat.le_of_eq g16)))
  have f104 : Arv Z h98 b1 k2 .char (9 : Int32) [(.int (114 : Int32)), (.int (101 : Int32)), (.int (100 : Int32)), (.int (105 : Int32)), (.int (114 : Int32)), (.int (101 : Int32)), (.int (99 : Int32)), (.int (116 : Int32)), (.int (115 : Int32))] (.int 0) := f95.other W101 z21
  have f105 : Arv Z h98 a14 k15 .char (10 : Int32) [(.int (114 : Int32)), (.int (101 : Int32)), (.int (100 : Int32)), (.int (105 : Int32)), (.int (114 : Int32)), (.int (101 : Int32)), (.int (99 : Int32)), (.int (116 : Int32)), (.int (115 : Int32)), (.int (0 : Int32))] (.int 0) := X102
  refine own_iloadN (q := 116) (v := (10 : Int32)) A100 d18_115 rfl ?_
  refine own_bipush (q := 118) A100 (9 : Int32) d18_116 rfl ?_
  refine own_icmpF (q := 121) A100 d18_118 (show (9 : Int32) < (10 : Int32) from by decide) ?_
  refine own_aloadN (q := 122) (v := (.ref a14)) A100 d18_121 rfl rfl ?_
  refine own_bipush (q := 124) A100 (9 : Int32) d18_122 rfl ?_
  refine own_iloadN (q := 125) (v := c) A100 d18_124 rfl ?_
  refine own_stCv (q := 126) A100 f105 9 (by decide) (by decide) (by decide) (Nat.le_of_ble_eq_true rfl) g17 (Or.inr (Or.inr (Or.inr (by obtain ⟨c, q, _⟩ := f105; exact ⟨c, _, q, by decide⟩)))) d18_125 ?_
  intro T106 h107 sl108 A109 W110 X111
  have K112 : Keep h0 h107 [] := K103.wr W110 (Or.inr (Nat.le_trans K11.1 (Nat.le_of_eq g16)))
  have f113 : Arv Z h107 b1 k2 .char (9 : Int32) [(.int (114 : Int32)), (.int (101 : Int32)), (.int (100 : Int32)), (.int (105 : Int32)), (.int (114 : Int32)), (.int (101 : Int32)), (.int (99 : Int32)), (.int (116 : Int32)), (.int (115 : Int32))] (.int 0) := f104.other W110 z21
  have f114 : Arv Z h107 a14 k15 .char (10 : Int32) [(.int (114 : Int32)), (.int (101 : Int32)), (.int (100 : Int32)), (.int (105 : Int32)), (.int (114 : Int32)), (.int (101 : Int32)), (.int (99 : Int32)), (.int (116 : Int32)), (.int (115 : Int32)), (.int (nar .char c))] (.int 0) := X111
  have f115 : Arv Z h107 a14 k15 .char (10 : Int32) [(.int (114 : Int32)), (.int (101 : Int32)), (.int (100 : Int32)), (.int (105 : Int32)), (.int (114 : Int32)), (.int (101 : Int32)), (.int (99 : Int32)), (.int (116 : Int32)), (.int (115 : Int32)), (.int c)] (.int 0) := by
    have q := f114
    rw [hnc] at q
    exact q
  refine own_aloadN (q := 127) (v := (.ref a14)) A109 d18_126 rfl rfl ?_
  exact own_retA A109 hQ rfl rfl rfl d18_127 ⟨a14, _, rfl, g17, (Nat.le_trans K11.1 (Nat.le_of_eq g16)), K112, f115⟩
theorem d17_0 : decode method_4_code 0 = .ok (.iload_n 0, 1) := by decide +kernel
theorem d17_1 : decode method_4_code 1 = .ok (.ifCond .ne 6, 3) := by decide +kernel
theorem d17_4 : decode method_4_code 4 = .ok (.ldc 15, 2) := by decide +kernel
theorem d17_6 : decode method_4_code 6 = .ok (.areturn, 1) := by decide +kernel
theorem d17_7 : decode method_4_code 7 = .ok (.iload_n 0, 1) := by decide +kernel
theorem d17_8 : decode method_4_code 8 = .ok (.iconst 1, 1) := by decide +kernel
theorem d17_9 : decode method_4_code 9 = .ok (.if_icmp .ne 6, 3) := by decide +kernel
theorem d17_12 : decode method_4_code 12 = .ok (.ldc 17, 2) := by decide +kernel
theorem d17_14 : decode method_4_code 14 = .ok (.areturn, 1) := by decide +kernel
theorem d17_15 : decode method_4_code 15 = .ok (.iload_n 0, 1) := by decide +kernel
theorem d17_16 : decode method_4_code 16 = .ok (.iconst 2, 1) := by decide +kernel
theorem d17_17 : decode method_4_code 17 = .ok (.if_icmp .ne 6, 3) := by decide +kernel
theorem d17_20 : decode method_4_code 20 = .ok (.ldc 19, 2) := by decide +kernel
theorem d17_22 : decode method_4_code 22 = .ok (.areturn, 1) := by decide +kernel
theorem d17_23 : decode method_4_code 23 = .ok (.iload_n 0, 1) := by decide +kernel
theorem d17_24 : decode method_4_code 24 = .ok (.iconst 3, 1) := by decide +kernel
theorem d17_25 : decode method_4_code 25 = .ok (.if_icmp .ne 6, 3) := by decide +kernel
theorem d17_28 : decode method_4_code 28 = .ok (.ldc 21, 2) := by decide +kernel
theorem d17_30 : decode method_4_code 30 = .ok (.areturn, 1) := by decide +kernel
theorem d17_31 : decode method_4_code 31 = .ok (.iload_n 0, 1) := by decide +kernel
theorem d17_32 : decode method_4_code 32 = .ok (.iconst 4, 1) := by decide +kernel
theorem d17_33 : decode method_4_code 33 = .ok (.if_icmp .ne 6, 3) := by decide +kernel
theorem d17_36 : decode method_4_code 36 = .ok (.ldc 23, 2) := by decide +kernel
theorem d17_38 : decode method_4_code 38 = .ok (.areturn, 1) := by decide +kernel
theorem d17_39 : decode method_4_code 39 = .ok (.iload_n 0, 1) := by decide +kernel
theorem d17_40 : decode method_4_code 40 = .ok (.iconst 5, 1) := by decide +kernel
theorem d17_41 : decode method_4_code 41 = .ok (.if_icmp .ne 6, 3) := by decide +kernel
theorem d17_44 : decode method_4_code 44 = .ok (.ldc 25, 2) := by decide +kernel
theorem d17_46 : decode method_4_code 46 = .ok (.areturn, 1) := by decide +kernel
theorem d17_47 : decode method_4_code 47 = .ok (.iload_n 0, 1) := by decide +kernel
theorem d17_48 : decode method_4_code 48 = .ok (.bipush 6, 2) := by decide +kernel
theorem d17_50 : decode method_4_code 50 = .ok (.if_icmp .ne 6, 3) := by decide +kernel
theorem d17_53 : decode method_4_code 53 = .ok (.ldc 27, 2) := by decide +kernel
theorem d17_55 : decode method_4_code 55 = .ok (.areturn, 1) := by decide +kernel
theorem d17_56 : decode method_4_code 56 = .ok (.ldc 29, 2) := by decide +kernel
theorem d17_58 : decode method_4_code 58 = .ok (.areturn, 1) := by decide +kernel
set_option maxRecDepth 65536 in
set_option maxHeartbeats 40000000 in
theorem rm_con0 (l : Launch) (Z : State) (a0 : Array Value) (hw : ∀ d ∈ tables_1, d.before a0 Z = true) (zc : Int32) (dA uA : Addr) (h0 : Heap) (n0 : Nat) (O0 : Old Z n0 h0) (hEL : EW Z a0 consts_1) (SC : Sta Z Z.heap "java/lang/String" "COMPACT_STRINGS" "Z" (.int zc)) (hz : ¬ zc = 0) (SD : Sta Z Z.heap "com/example/linkfield/linkfield/core/Verdict" "DEAD" "Lcom/example/linkfield/linkfield/core/Verdict;" (.ref dA)) (SU : Sta Z Z.heap "com/example/linkfield/linkfield/core/Verdict" "UNREACHABLE" "Lcom/example/linkfield/linkfield/core/Verdict;" (.ref uA))  :
    own_Met true l Z n0 consts_1 [] (⟨"com/example/linkfield/linkfield/core/HttpCheckUnansweredPinLaw", "constant", "(I)Ljava/lang/String;"⟩ : MethodName) method_4_code 1 (some (.object "java/lang/String")) [] ({ frames := 0, cells := 2, slots := 32, locals := 0 } : Room) #[(.int (0 : Int32))] h0 (fun v h => ∃ (b t : Addr) (k : ClassId), v = some (.ref b) ∧ Ext h0 h ∧ Exa Z h b "java/lang/String" ∧ Fld Z h b "java/lang/String" "coder" "B" (.int 0) ∧ Fld Z h b "java/lang/String" "value" "[B" (.ref t) ∧ Arv Z h t k .byte 7 [(.int 116), (.int 105), (.int 109), (.int 101), (.int 111), (.int 117), (.int 116)] (.int 0)) := by
  refine own_enter (a0 := a0) (own := "com/example/linkfield/linkfield/core/HttpCheckUnansweredPinLaw") (nm := "constant") (Ls := #[.val (.int (0 : Int32))]) own_pn0 O0 hEL (fun m => by first | (simp [entryFrame, mkF, argsToLocals, Value.category, maxLocals]; done) | rfl) ?_
  intro p e s m args below meth cde T0 Q hQ A0
  show own_Run p e below Q m T0 0 #[.val (.int (0 : Int32))] []
  refine own_iloadN (q := 1) (v := (0 : Int32)) A0 d17_0 rfl ?_
  refine own_ifcF (q := 4) A0 d17_1 (show (0 : Int32) = (0 : Int32) from by decide) ?_
  refine own_ldcR (q := 6) (n := 28) (z := 7) (vs := [(.int (116 : Int32)), (.int (105 : Int32)), (.int (109 : Int32)), (.int (101 : Int32)), (.int (111 : Int32)), (.int (117 : Int32)), (.int (116 : Int32))]) A0 (hw _ (List.mem_of_getElem? (i := 107) rfl)) (own_satoms hw) (by decide) ⟨by decide +kernel, by decide +kernel⟩ (by decide) (by decide) d17_4 (by decide) (by decide) (by decide) (by decide) ?_
  intro a1 b2 k3 T4 h5 A6 E7 X8 F9 F10 V11 N12
  exact own_retA A6 hQ rfl rfl rfl d17_6 ⟨a1, b2, k3, rfl, E7, X8, F9, F10, V11⟩
set_option maxRecDepth 65536 in
set_option maxHeartbeats 40000000 in
theorem rm_con1 (l : Launch) (Z : State) (a0 : Array Value) (hw : ∀ d ∈ tables_1, d.before a0 Z = true) (zc : Int32) (dA uA : Addr) (h0 : Heap) (n0 : Nat) (O0 : Old Z n0 h0) (hEL : EW Z a0 consts_1) (SC : Sta Z Z.heap "java/lang/String" "COMPACT_STRINGS" "Z" (.int zc)) (hz : ¬ zc = 0) (SD : Sta Z Z.heap "com/example/linkfield/linkfield/core/Verdict" "DEAD" "Lcom/example/linkfield/linkfield/core/Verdict;" (.ref dA)) (SU : Sta Z Z.heap "com/example/linkfield/linkfield/core/Verdict" "UNREACHABLE" "Lcom/example/linkfield/linkfield/core/Verdict;" (.ref uA))  :
    own_Met true l Z n0 consts_1 [] (⟨"com/example/linkfield/linkfield/core/HttpCheckUnansweredPinLaw", "constant", "(I)Ljava/lang/String;"⟩ : MethodName) method_4_code 1 (some (.object "java/lang/String")) [] ({ frames := 0, cells := 2, slots := 32, locals := 0 } : Room) #[(.int (1 : Int32))] h0 (fun v h => ∃ (b t : Addr) (k : ClassId), v = some (.ref b) ∧ Ext h0 h ∧ Exa Z h b "java/lang/String" ∧ Fld Z h b "java/lang/String" "coder" "B" (.int 0) ∧ Fld Z h b "java/lang/String" "value" "[B" (.ref t) ∧ Arv Z h t k .byte 7 [(.int 114), (.int 101), (.int 102), (.int 117), (.int 115), (.int 101), (.int 100)] (.int 0)) := by
  refine own_enter (a0 := a0) (own := "com/example/linkfield/linkfield/core/HttpCheckUnansweredPinLaw") (nm := "constant") (Ls := #[.val (.int (1 : Int32))]) own_pn0 O0 hEL (fun m => by first | (simp [entryFrame, mkF, argsToLocals, Value.category, maxLocals]; done) | rfl) ?_
  intro p e s m args below meth cde T0 Q hQ A0
  show own_Run p e below Q m T0 0 #[.val (.int (1 : Int32))] []
  refine own_iloadN (q := 1) (v := (1 : Int32)) A0 d17_0 rfl ?_
  refine own_ifcT (q := 7) A0 d17_1 (show ¬ (1 : Int32) = (0 : Int32) from by decide) ?_
  refine own_iloadN (q := 8) (v := (1 : Int32)) A0 d17_7 rfl ?_
  refine own_iconst (q := 9) A0 (1 : Int32) d17_8 rfl ?_
  refine own_icmpF (q := 12) A0 d17_9 (show (1 : Int32) = (1 : Int32) from by decide) ?_
  refine own_ldcR (q := 14) (n := 28) (z := 7) (vs := [(.int (114 : Int32)), (.int (101 : Int32)), (.int (102 : Int32)), (.int (117 : Int32)), (.int (115 : Int32)), (.int (101 : Int32)), (.int (100 : Int32))]) A0 (hw _ (List.mem_of_getElem? (i := 108) rfl)) (own_satoms hw) (by decide) ⟨by decide +kernel, by decide +kernel⟩ (by decide) (by decide) d17_12 (by decide) (by decide) (by decide) (by decide) ?_
  intro a1 b2 k3 T4 h5 A6 E7 X8 F9 F10 V11 N12
  exact own_retA A6 hQ rfl rfl rfl d17_14 ⟨a1, b2, k3, rfl, E7, X8, F9, F10, V11⟩
set_option maxRecDepth 65536 in
set_option maxHeartbeats 40000000 in
theorem rm_con2 (l : Launch) (Z : State) (a0 : Array Value) (hw : ∀ d ∈ tables_1, d.before a0 Z = true) (zc : Int32) (dA uA : Addr) (h0 : Heap) (n0 : Nat) (O0 : Old Z n0 h0) (hEL : EW Z a0 consts_1) (SC : Sta Z Z.heap "java/lang/String" "COMPACT_STRINGS" "Z" (.int zc)) (hz : ¬ zc = 0) (SD : Sta Z Z.heap "com/example/linkfield/linkfield/core/Verdict" "DEAD" "Lcom/example/linkfield/linkfield/core/Verdict;" (.ref dA)) (SU : Sta Z Z.heap "com/example/linkfield/linkfield/core/Verdict" "UNREACHABLE" "Lcom/example/linkfield/linkfield/core/Verdict;" (.ref uA))  :
    own_Met true l Z n0 consts_1 [] (⟨"com/example/linkfield/linkfield/core/HttpCheckUnansweredPinLaw", "constant", "(I)Ljava/lang/String;"⟩ : MethodName) method_4_code 1 (some (.object "java/lang/String")) [] ({ frames := 0, cells := 2, slots := 40, locals := 0 } : Room) #[(.int (2 : Int32))] h0 (fun v h => ∃ (b t : Addr) (k : ClassId), v = some (.ref b) ∧ Ext h0 h ∧ Exa Z h b "java/lang/String" ∧ Fld Z h b "java/lang/String" "coder" "B" (.int 0) ∧ Fld Z h b "java/lang/String" "value" "[B" (.ref t) ∧ Arv Z h t k .byte 9 [(.int 110), (.int 111), (.int 45), (.int 97), (.int 110), (.int 115), (.int 119), (.int 101), (.int 114)] (.int 0)) := by
  refine own_enter (a0 := a0) (own := "com/example/linkfield/linkfield/core/HttpCheckUnansweredPinLaw") (nm := "constant") (Ls := #[.val (.int (2 : Int32))]) own_pn0 O0 hEL (fun m => by first | (simp [entryFrame, mkF, argsToLocals, Value.category, maxLocals]; done) | rfl) ?_
  intro p e s m args below meth cde T0 Q hQ A0
  show own_Run p e below Q m T0 0 #[.val (.int (2 : Int32))] []
  refine own_iloadN (q := 1) (v := (2 : Int32)) A0 d17_0 rfl ?_
  refine own_ifcT (q := 7) A0 d17_1 (show ¬ (2 : Int32) = (0 : Int32) from by decide) ?_
  refine own_iloadN (q := 8) (v := (2 : Int32)) A0 d17_7 rfl ?_
  refine own_iconst (q := 9) A0 (1 : Int32) d17_8 rfl ?_
  refine own_icmpT (q := 15) A0 d17_9 (show ¬ (2 : Int32) = (1 : Int32) from by decide) ?_
  refine own_iloadN (q := 16) (v := (2 : Int32)) A0 d17_15 rfl ?_
  refine own_iconst (q := 17) A0 (2 : Int32) d17_16 rfl ?_
  refine own_icmpF (q := 20) A0 d17_17 (show (2 : Int32) = (2 : Int32) from by decide) ?_
  refine own_ldcR (q := 22) (n := 36) (z := 9) (vs := [(.int (110 : Int32)), (.int (111 : Int32)), (.int (45 : Int32)), (.int (97 : Int32)), (.int (110 : Int32)), (.int (115 : Int32)), (.int (119 : Int32)), (.int (101 : Int32)), (.int (114 : Int32))]) A0 (hw _ (List.mem_of_getElem? (i := 105) rfl)) (own_satoms hw) (by decide) ⟨by decide +kernel, by decide +kernel⟩ (by decide) (by decide) d17_20 (by decide) (by decide) (by decide) (by decide) ?_
  intro a1 b2 k3 T4 h5 A6 E7 X8 F9 F10 V11 N12
  exact own_retA A6 hQ rfl rfl rfl d17_22 ⟨a1, b2, k3, rfl, E7, X8, F9, F10, V11⟩
set_option maxRecDepth 65536 in
set_option maxHeartbeats 40000000 in
theorem rm_con3 (l : Launch) (Z : State) (a0 : Array Value) (hw : ∀ d ∈ tables_1, d.before a0 Z = true) (zc : Int32) (dA uA : Addr) (h0 : Heap) (n0 : Nat) (O0 : Old Z n0 h0) (hEL : EW Z a0 consts_1) (SC : Sta Z Z.heap "java/lang/String" "COMPACT_STRINGS" "Z" (.int zc)) (hz : ¬ zc = 0) (SD : Sta Z Z.heap "com/example/linkfield/linkfield/core/Verdict" "DEAD" "Lcom/example/linkfield/linkfield/core/Verdict;" (.ref dA)) (SU : Sta Z Z.heap "com/example/linkfield/linkfield/core/Verdict" "UNREACHABLE" "Lcom/example/linkfield/linkfield/core/Verdict;" (.ref uA))  :
    own_Met true l Z n0 consts_1 [] (⟨"com/example/linkfield/linkfield/core/HttpCheckUnansweredPinLaw", "constant", "(I)Ljava/lang/String;"⟩ : MethodName) method_4_code 1 (some (.object "java/lang/String")) [] ({ frames := 0, cells := 2, slots := 52, locals := 0 } : Room) #[(.int (3 : Int32))] h0 (fun v h => ∃ (b t : Addr) (k : ClassId), v = some (.ref b) ∧ Ext h0 h ∧ Exa Z h b "java/lang/String" ∧ Fld Z h b "java/lang/String" "coder" "B" (.int 0) ∧ Fld Z h b "java/lang/String" "value" "[B" (.ref t) ∧ Arv Z h t k .byte 12 [(.int 117), (.int 110), (.int 107), (.int 110), (.int 111), (.int 119), (.int 110), (.int 45), (.int 104), (.int 111), (.int 115), (.int 116)] (.int 0)) := by
  refine own_enter (a0 := a0) (own := "com/example/linkfield/linkfield/core/HttpCheckUnansweredPinLaw") (nm := "constant") (Ls := #[.val (.int (3 : Int32))]) own_pn0 O0 hEL (fun m => by first | (simp [entryFrame, mkF, argsToLocals, Value.category, maxLocals]; done) | rfl) ?_
  intro p e s m args below meth cde T0 Q hQ A0
  show own_Run p e below Q m T0 0 #[.val (.int (3 : Int32))] []
  refine own_iloadN (q := 1) (v := (3 : Int32)) A0 d17_0 rfl ?_
  refine own_ifcT (q := 7) A0 d17_1 (show ¬ (3 : Int32) = (0 : Int32) from by decide) ?_
  refine own_iloadN (q := 8) (v := (3 : Int32)) A0 d17_7 rfl ?_
  refine own_iconst (q := 9) A0 (1 : Int32) d17_8 rfl ?_
  refine own_icmpT (q := 15) A0 d17_9 (show ¬ (3 : Int32) = (1 : Int32) from by decide) ?_
  refine own_iloadN (q := 16) (v := (3 : Int32)) A0 d17_15 rfl ?_
  refine own_iconst (q := 17) A0 (2 : Int32) d17_16 rfl ?_
  refine own_icmpT (q := 23) A0 d17_17 (show ¬ (3 : Int32) = (2 : Int32) from by decide) ?_
  refine own_iloadN (q := 24) (v := (3 : Int32)) A0 d17_23 rfl ?_
  refine own_iconst (q := 25) A0 (3 : Int32) d17_24 rfl ?_
  refine own_icmpF (q := 28) A0 d17_25 (show (3 : Int32) = (3 : Int32) from by decide) ?_
  refine own_ldcR (q := 30) (n := 48) (z := 12) (vs := [(.int (117 : Int32)), (.int (110 : Int32)), (.int (107 : Int32)), (.int (110 : Int32)), (.int (111 : Int32)), (.int (119 : Int32)), (.int (110 : Int32)), (.int (45 : Int32)), (.int (104 : Int32)), (.int (111 : Int32)), (.int (115 : Int32)), (.int (116 : Int32))]) A0 (hw _ (List.mem_of_getElem? (i := 111) rfl)) (own_satoms hw) (by decide) ⟨by decide +kernel, by decide +kernel⟩ (by decide) (by decide) d17_28 (by decide) (by decide) (by decide) (by decide) ?_
  intro a1 b2 k3 T4 h5 A6 E7 X8 F9 F10 V11 N12
  exact own_retA A6 hQ rfl rfl rfl d17_30 ⟨a1, b2, k3, rfl, E7, X8, F9, F10, V11⟩
set_option maxRecDepth 65536 in
set_option maxHeartbeats 40000000 in
theorem rm_con4 (l : Launch) (Z : State) (a0 : Array Value) (hw : ∀ d ∈ tables_1, d.before a0 Z = true) (zc : Int32) (dA uA : Addr) (h0 : Heap) (n0 : Nat) (O0 : Old Z n0 h0) (hEL : EW Z a0 consts_1) (SC : Sta Z Z.heap "java/lang/String" "COMPACT_STRINGS" "Z" (.int zc)) (hz : ¬ zc = 0) (SD : Sta Z Z.heap "com/example/linkfield/linkfield/core/Verdict" "DEAD" "Lcom/example/linkfield/linkfield/core/Verdict;" (.ref dA)) (SU : Sta Z Z.heap "com/example/linkfield/linkfield/core/Verdict" "UNREACHABLE" "Lcom/example/linkfield/linkfield/core/Verdict;" (.ref uA))  :
    own_Met true l Z n0 consts_1 [] (⟨"com/example/linkfield/linkfield/core/HttpCheckUnansweredPinLaw", "constant", "(I)Ljava/lang/String;"⟩ : MethodName) method_4_code 1 (some (.object "java/lang/String")) [] ({ frames := 0, cells := 2, slots := 40, locals := 0 } : Room) #[(.int (4 : Int32))] h0 (fun v h => ∃ (b t : Addr) (k : ClassId), v = some (.ref b) ∧ Ext h0 h ∧ Exa Z h b "java/lang/String" ∧ Fld Z h b "java/lang/String" "coder" "B" (.int 0) ∧ Fld Z h b "java/lang/String" "value" "[B" (.ref t) ∧ Arv Z h t k .byte 9 [(.int 116), (.int 108), (.int 115), (.int 45), (.int 101), (.int 114), (.int 114), (.int 111), (.int 114)] (.int 0)) := by
  refine own_enter (a0 := a0) (own := "com/example/linkfield/linkfield/core/HttpCheckUnansweredPinLaw") (nm := "constant") (Ls := #[.val (.int (4 : Int32))]) own_pn0 O0 hEL (fun m => by first | (simp [entryFrame, mkF, argsToLocals, Value.category, maxLocals]; done) | rfl) ?_
  intro p e s m args below meth cde T0 Q hQ A0
  show own_Run p e below Q m T0 0 #[.val (.int (4 : Int32))] []
  refine own_iloadN (q := 1) (v := (4 : Int32)) A0 d17_0 rfl ?_
  refine own_ifcT (q := 7) A0 d17_1 (show ¬ (4 : Int32) = (0 : Int32) from by decide) ?_
  refine own_iloadN (q := 8) (v := (4 : Int32)) A0 d17_7 rfl ?_
  refine own_iconst (q := 9) A0 (1 : Int32) d17_8 rfl ?_
  refine own_icmpT (q := 15) A0 d17_9 (show ¬ (4 : Int32) = (1 : Int32) from by decide) ?_
  refine own_iloadN (q := 16) (v := (4 : Int32)) A0 d17_15 rfl ?_
  refine own_iconst (q := 17) A0 (2 : Int32) d17_16 rfl ?_
  refine own_icmpT (q := 23) A0 d17_17 (show ¬ (4 : Int32) = (2 : Int32) from by decide) ?_
  refine own_iloadN (q := 24) (v := (4 : Int32)) A0 d17_23 rfl ?_
  refine own_iconst (q := 25) A0 (3 : Int32) d17_24 rfl ?_
  refine own_icmpT (q := 31) A0 d17_25 (show ¬ (4 : Int32) = (3 : Int32) from by decide) ?_
  refine own_iloadN (q := 32) (v := (4 : Int32)) A0 d17_31 rfl ?_
  refine own_iconst (q := 33) A0 (4 : Int32) d17_32 rfl ?_
  refine own_icmpF (q := 36) A0 d17_33 (show (4 : Int32) = (4 : Int32) from by decide) ?_
  refine own_ldcR (q := 38) (n := 36) (z := 9) (vs := [(.int (116 : Int32)), (.int (108 : Int32)), (.int (115 : Int32)), (.int (45 : Int32)), (.int (101 : Int32)), (.int (114 : Int32)), (.int (114 : Int32)), (.int (111 : Int32)), (.int (114 : Int32))]) A0 (hw _ (List.mem_of_getElem? (i := 112) rfl)) (own_satoms hw) (by decide) ⟨by decide +kernel, by decide +kernel⟩ (by decide) (by decide) d17_36 (by decide) (by decide) (by decide) (by decide) ?_
  intro a1 b2 k3 T4 h5 A6 E7 X8 F9 F10 V11 N12
  exact own_retA A6 hQ rfl rfl rfl d17_38 ⟨a1, b2, k3, rfl, E7, X8, F9, F10, V11⟩
set_option maxRecDepth 65536 in
set_option maxHeartbeats 40000000 in
theorem rm_con5 (l : Launch) (Z : State) (a0 : Array Value) (hw : ∀ d ∈ tables_1, d.before a0 Z = true) (zc : Int32) (dA uA : Addr) (h0 : Heap) (n0 : Nat) (O0 : Old Z n0 h0) (hEL : EW Z a0 consts_1) (SC : Sta Z Z.heap "java/lang/String" "COMPACT_STRINGS" "Z" (.int zc)) (hz : ¬ zc = 0) (SD : Sta Z Z.heap "com/example/linkfield/linkfield/core/Verdict" "DEAD" "Lcom/example/linkfield/linkfield/core/Verdict;" (.ref dA)) (SU : Sta Z Z.heap "com/example/linkfield/linkfield/core/Verdict" "UNREACHABLE" "Lcom/example/linkfield/linkfield/core/Verdict;" (.ref uA))  :
    own_Met true l Z n0 consts_1 [] (⟨"com/example/linkfield/linkfield/core/HttpCheckUnansweredPinLaw", "constant", "(I)Ljava/lang/String;"⟩ : MethodName) method_4_code 1 (some (.object "java/lang/String")) [] ({ frames := 0, cells := 2, slots := 36, locals := 0 } : Room) #[(.int (5 : Int32))] h0 (fun v h => ∃ (b t : Addr) (k : ClassId), v = some (.ref b) ∧ Ext h0 h ∧ Exa Z h b "java/lang/String" ∧ Fld Z h b "java/lang/String" "coder" "B" (.int 0) ∧ Fld Z h b "java/lang/String" "value" "[B" (.ref t) ∧ Arv Z h t k .byte 8 [(.int 110), (.int 111), (.int 116), (.int 45), (.int 115), (.int 101), (.int 110), (.int 116)] (.int 0)) := by
  refine own_enter (a0 := a0) (own := "com/example/linkfield/linkfield/core/HttpCheckUnansweredPinLaw") (nm := "constant") (Ls := #[.val (.int (5 : Int32))]) own_pn0 O0 hEL (fun m => by first | (simp [entryFrame, mkF, argsToLocals, Value.category, maxLocals]; done) | rfl) ?_
  intro p e s m args below meth cde T0 Q hQ A0
  show own_Run p e below Q m T0 0 #[.val (.int (5 : Int32))] []
  refine own_iloadN (q := 1) (v := (5 : Int32)) A0 d17_0 rfl ?_
  refine own_ifcT (q := 7) A0 d17_1 (show ¬ (5 : Int32) = (0 : Int32) from by decide) ?_
  refine own_iloadN (q := 8) (v := (5 : Int32)) A0 d17_7 rfl ?_
  refine own_iconst (q := 9) A0 (1 : Int32) d17_8 rfl ?_
  refine own_icmpT (q := 15) A0 d17_9 (show ¬ (5 : Int32) = (1 : Int32) from by decide) ?_
  refine own_iloadN (q := 16) (v := (5 : Int32)) A0 d17_15 rfl ?_
  refine own_iconst (q := 17) A0 (2 : Int32) d17_16 rfl ?_
  refine own_icmpT (q := 23) A0 d17_17 (show ¬ (5 : Int32) = (2 : Int32) from by decide) ?_
  refine own_iloadN (q := 24) (v := (5 : Int32)) A0 d17_23 rfl ?_
  refine own_iconst (q := 25) A0 (3 : Int32) d17_24 rfl ?_
  refine own_icmpT (q := 31) A0 d17_25 (show ¬ (5 : Int32) = (3 : Int32) from by decide) ?_
  refine own_iloadN (q := 32) (v := (5 : Int32)) A0 d17_31 rfl ?_
  refine own_iconst (q := 33) A0 (4 : Int32) d17_32 rfl ?_
  refine own_icmpT (q := 39) A0 d17_33 (show ¬ (5 : Int32) = (4 : Int32) from by decide) ?_
  refine own_iloadN (q := 40) (v := (5 : Int32)) A0 d17_39 rfl ?_
  refine own_iconst (q := 41) A0 (5 : Int32) d17_40 rfl ?_
  refine own_icmpF (q := 44) A0 d17_41 (show (5 : Int32) = (5 : Int32) from by decide) ?_
  refine own_ldcR (q := 46) (n := 32) (z := 8) (vs := [(.int (110 : Int32)), (.int (111 : Int32)), (.int (116 : Int32)), (.int (45 : Int32)), (.int (115 : Int32)), (.int (101 : Int32)), (.int (110 : Int32)), (.int (116 : Int32))]) A0 (hw _ (List.mem_of_getElem? (i := 110) rfl)) (own_satoms hw) (by decide) ⟨by decide +kernel, by decide +kernel⟩ (by decide) (by decide) d17_44 (by decide) (by decide) (by decide) (by decide) ?_
  intro a1 b2 k3 T4 h5 A6 E7 X8 F9 F10 V11 N12
  exact own_retA A6 hQ rfl rfl rfl d17_46 ⟨a1, b2, k3, rfl, E7, X8, F9, F10, V11⟩
set_option maxRecDepth 65536 in
set_option maxHeartbeats 40000000 in
theorem rm_con6 (l : Launch) (Z : State) (a0 : Array Value) (hw : ∀ d ∈ tables_1, d.before a0 Z = true) (zc : Int32) (dA uA : Addr) (h0 : Heap) (n0 : Nat) (O0 : Old Z n0 h0) (hEL : EW Z a0 consts_1) (SC : Sta Z Z.heap "java/lang/String" "COMPACT_STRINGS" "Z" (.int zc)) (hz : ¬ zc = 0) (SD : Sta Z Z.heap "com/example/linkfield/linkfield/core/Verdict" "DEAD" "Lcom/example/linkfield/linkfield/core/Verdict;" (.ref dA)) (SU : Sta Z Z.heap "com/example/linkfield/linkfield/core/Verdict" "UNREACHABLE" "Lcom/example/linkfield/linkfield/core/Verdict;" (.ref uA))  :
    own_Met true l Z n0 consts_1 [] (⟨"com/example/linkfield/linkfield/core/HttpCheckUnansweredPinLaw", "constant", "(I)Ljava/lang/String;"⟩ : MethodName) method_4_code 1 (some (.object "java/lang/String")) [] ({ frames := 0, cells := 2, slots := 40, locals := 0 } : Room) #[(.int (6 : Int32))] h0 (fun v h => ∃ (b t : Addr) (k : ClassId), v = some (.ref b) ∧ Ext h0 h ∧ Exa Z h b "java/lang/String" ∧ Fld Z h b "java/lang/String" "coder" "B" (.int 0) ∧ Fld Z h b "java/lang/String" "value" "[B" (.ref t) ∧ Arv Z h t k .byte 9 [(.int 114), (.int 101), (.int 100), (.int 105), (.int 114), (.int 101), (.int 99), (.int 116), (.int 115)] (.int 0)) := by
  refine own_enter (a0 := a0) (own := "com/example/linkfield/linkfield/core/HttpCheckUnansweredPinLaw") (nm := "constant") (Ls := #[.val (.int (6 : Int32))]) own_pn0 O0 hEL (fun m => by first | (simp [entryFrame, mkF, argsToLocals, Value.category, maxLocals]; done) | rfl) ?_
  intro p e s m args below meth cde T0 Q hQ A0
  show own_Run p e below Q m T0 0 #[.val (.int (6 : Int32))] []
  refine own_iloadN (q := 1) (v := (6 : Int32)) A0 d17_0 rfl ?_
  refine own_ifcT (q := 7) A0 d17_1 (show ¬ (6 : Int32) = (0 : Int32) from by decide) ?_
  refine own_iloadN (q := 8) (v := (6 : Int32)) A0 d17_7 rfl ?_
  refine own_iconst (q := 9) A0 (1 : Int32) d17_8 rfl ?_
  refine own_icmpT (q := 15) A0 d17_9 (show ¬ (6 : Int32) = (1 : Int32) from by decide) ?_
  refine own_iloadN (q := 16) (v := (6 : Int32)) A0 d17_15 rfl ?_
  refine own_iconst (q := 17) A0 (2 : Int32) d17_16 rfl ?_
  refine own_icmpT (q := 23) A0 d17_17 (show ¬ (6 : Int32) = (2 : Int32) from by decide) ?_
  refine own_iloadN (q := 24) (v := (6 : Int32)) A0 d17_23 rfl ?_
  refine own_iconst (q := 25) A0 (3 : Int32) d17_24 rfl ?_
  refine own_icmpT (q := 31) A0 d17_25 (show ¬ (6 : Int32) = (3 : Int32) from by decide) ?_
  refine own_iloadN (q := 32) (v := (6 : Int32)) A0 d17_31 rfl ?_
  refine own_iconst (q := 33) A0 (4 : Int32) d17_32 rfl ?_
  refine own_icmpT (q := 39) A0 d17_33 (show ¬ (6 : Int32) = (4 : Int32) from by decide) ?_
  refine own_iloadN (q := 40) (v := (6 : Int32)) A0 d17_39 rfl ?_
  refine own_iconst (q := 41) A0 (5 : Int32) d17_40 rfl ?_
  refine own_icmpT (q := 47) A0 d17_41 (show ¬ (6 : Int32) = (5 : Int32) from by decide) ?_
  refine own_iloadN (q := 48) (v := (6 : Int32)) A0 d17_47 rfl ?_
  refine own_bipush (q := 50) A0 (6 : Int32) d17_48 rfl ?_
  refine own_icmpF (q := 53) A0 d17_50 (show (6 : Int32) = (6 : Int32) from by decide) ?_
  refine own_ldcR (q := 55) (n := 36) (z := 9) (vs := [(.int (114 : Int32)), (.int (101 : Int32)), (.int (100 : Int32)), (.int (105 : Int32)), (.int (114 : Int32)), (.int (101 : Int32)), (.int (99 : Int32)), (.int (116 : Int32)), (.int (115 : Int32))]) A0 (hw _ (List.mem_of_getElem? (i := 98) rfl)) (own_satoms hw) (by decide) ⟨by decide +kernel, by decide +kernel⟩ (by decide) (by decide) d17_53 (by decide) (by decide) (by decide) (by decide) ?_
  intro a1 b2 k3 T4 h5 A6 E7 X8 F9 F10 V11 N12
  exact own_retA A6 hQ rfl rfl rfl d17_55 ⟨a1, b2, k3, rfl, E7, X8, F9, F10, V11⟩
set_option maxRecDepth 65536 in
set_option maxHeartbeats 40000000 in
theorem rm_con7 (l : Launch) (Z : State) (a0 : Array Value) (hw : ∀ d ∈ tables_1, d.before a0 Z = true) (zc : Int32) (dA uA : Addr) (h0 : Heap) (n0 : Nat) (O0 : Old Z n0 h0) (hEL : EW Z a0 consts_1) (SC : Sta Z Z.heap "java/lang/String" "COMPACT_STRINGS" "Z" (.int zc)) (hz : ¬ zc = 0) (SD : Sta Z Z.heap "com/example/linkfield/linkfield/core/Verdict" "DEAD" "Lcom/example/linkfield/linkfield/core/Verdict;" (.ref dA)) (SU : Sta Z Z.heap "com/example/linkfield/linkfield/core/Verdict" "UNREACHABLE" "Lcom/example/linkfield/linkfield/core/Verdict;" (.ref uA))  :
    own_Met true l Z n0 consts_1 [] (⟨"com/example/linkfield/linkfield/core/HttpCheckUnansweredPinLaw", "constant", "(I)Ljava/lang/String;"⟩ : MethodName) method_4_code 1 (some (.object "java/lang/String")) [] ({ frames := 0, cells := 2, slots := 8, locals := 0 } : Room) #[(.int (7 : Int32))] h0 (fun v h => ∃ (b t : Addr) (k : ClassId), v = some (.ref b) ∧ Ext h0 h ∧ Exa Z h b "java/lang/String" ∧ Fld Z h b "java/lang/String" "coder" "B" (.int 0) ∧ Fld Z h b "java/lang/String" "value" "[B" (.ref t) ∧ Arv Z h t k .byte 1 [(.int 45)] (.int 0)) := by
  refine own_enter (a0 := a0) (own := "com/example/linkfield/linkfield/core/HttpCheckUnansweredPinLaw") (nm := "constant") (Ls := #[.val (.int (7 : Int32))]) own_pn0 O0 hEL (fun m => by first | (simp [entryFrame, mkF, argsToLocals, Value.category, maxLocals]; done) | rfl) ?_
  intro p e s m args below meth cde T0 Q hQ A0
  show own_Run p e below Q m T0 0 #[.val (.int (7 : Int32))] []
  refine own_iloadN (q := 1) (v := (7 : Int32)) A0 d17_0 rfl ?_
  refine own_ifcT (q := 7) A0 d17_1 (show ¬ (7 : Int32) = (0 : Int32) from by decide) ?_
  refine own_iloadN (q := 8) (v := (7 : Int32)) A0 d17_7 rfl ?_
  refine own_iconst (q := 9) A0 (1 : Int32) d17_8 rfl ?_
  refine own_icmpT (q := 15) A0 d17_9 (show ¬ (7 : Int32) = (1 : Int32) from by decide) ?_
  refine own_iloadN (q := 16) (v := (7 : Int32)) A0 d17_15 rfl ?_
  refine own_iconst (q := 17) A0 (2 : Int32) d17_16 rfl ?_
  refine own_icmpT (q := 23) A0 d17_17 (show ¬ (7 : Int32) = (2 : Int32) from by decide) ?_
  refine own_iloadN (q := 24) (v := (7 : Int32)) A0 d17_23 rfl ?_
  refine own_iconst (q := 25) A0 (3 : Int32) d17_24 rfl ?_
  refine own_icmpT (q := 31) A0 d17_25 (show ¬ (7 : Int32) = (3 : Int32) from by decide) ?_
  refine own_iloadN (q := 32) (v := (7 : Int32)) A0 d17_31 rfl ?_
  refine own_iconst (q := 33) A0 (4 : Int32) d17_32 rfl ?_
  refine own_icmpT (q := 39) A0 d17_33 (show ¬ (7 : Int32) = (4 : Int32) from by decide) ?_
  refine own_iloadN (q := 40) (v := (7 : Int32)) A0 d17_39 rfl ?_
  refine own_iconst (q := 41) A0 (5 : Int32) d17_40 rfl ?_
  refine own_icmpT (q := 47) A0 d17_41 (show ¬ (7 : Int32) = (5 : Int32) from by decide) ?_
  refine own_iloadN (q := 48) (v := (7 : Int32)) A0 d17_47 rfl ?_
  refine own_bipush (q := 50) A0 (6 : Int32) d17_48 rfl ?_
  refine own_icmpT (q := 56) A0 d17_50 (show ¬ (7 : Int32) = (6 : Int32) from by decide) ?_
  refine own_ldcR (q := 58) (n := 4) (z := 1) (vs := [(.int (45 : Int32))]) A0 (hw _ (List.mem_of_getElem? (i := 109) rfl)) (own_satoms hw) (by decide) ⟨by decide +kernel, by decide +kernel⟩ (by decide) (by decide) d17_56 (by decide) (by decide) (by decide) (by decide) ?_
  intro a1 b2 k3 T4 h5 A6 E7 X8 F9 F10 V11 N12
  exact own_retA A6 hQ rfl rfl rfl d17_58 ⟨a1, b2, k3, rfl, E7, X8, F9, F10, V11⟩
theorem d3_0 : decode jdk_42_method_149_code 0 = .ok (.aload_n 0, 1) := by decide +kernel
theorem d3_1 : decode jdk_42_method_149_code 1 = .ok (.invokespecial 1, 3) := by decide +kernel
theorem d3_4 : decode jdk_42_method_149_code 4 = .ok (.iload_n 3, 1) := by decide +kernel
theorem d3_5 : decode jdk_42_method_149_code 5 = .ok (.ifCond .ne 22, 3) := by decide +kernel
theorem d3_8 : decode jdk_42_method_149_code 8 = .ok (.aload_n 0, 1) := by decide +kernel
theorem d3_9 : decode jdk_42_method_149_code 9 = .ok (.ldc 7, 2) := by decide +kernel
theorem d3_11 : decode jdk_42_method_149_code 11 = .ok (.getfield 9, 3) := by decide +kernel
theorem d3_14 : decode jdk_42_method_149_code 14 = .ok (.putfield 9, 3) := by decide +kernel
theorem d3_17 : decode jdk_42_method_149_code 17 = .ok (.aload_n 0, 1) := by decide +kernel
theorem d3_18 : decode jdk_42_method_149_code 18 = .ok (.ldc 7, 2) := by decide +kernel
theorem d3_20 : decode jdk_42_method_149_code 20 = .ok (.getfield 15, 3) := by decide +kernel
theorem d3_23 : decode jdk_42_method_149_code 23 = .ok (.putfield 15, 3) := by decide +kernel
theorem d3_26 : decode jdk_42_method_149_code 26 = .ok (.return_, 1) := by decide +kernel
theorem d3_27 : decode jdk_42_method_149_code 27 = .ok (.getstatic 38, 3) := by decide +kernel
theorem d3_30 : decode jdk_42_method_149_code 30 = .ok (.ifCond .eq 28, 3) := by decide +kernel
theorem d3_33 : decode jdk_42_method_149_code 33 = .ok (.aload_n 1, 1) := by decide +kernel
theorem d3_34 : decode jdk_42_method_149_code 34 = .ok (.iload_n 2, 1) := by decide +kernel
theorem d3_35 : decode jdk_42_method_149_code 35 = .ok (.iload_n 3, 1) := by decide +kernel
theorem d3_36 : decode jdk_42_method_149_code 36 = .ok (.invokestatic 177, 3) := by decide +kernel
theorem d3_39 : decode jdk_42_method_149_code 39 = .ok (.astore 5, 2) := by decide +kernel
theorem d3_41 : decode jdk_42_method_149_code 41 = .ok (.aload_n 0, 1) := by decide +kernel
theorem d3_42 : decode jdk_42_method_149_code 42 = .ok (.aload 5, 2) := by decide +kernel
theorem d3_44 : decode jdk_42_method_149_code 44 = .ok (.iload_n 3, 1) := by decide +kernel
theorem d3_45 : decode jdk_42_method_149_code 45 = .ok (.invokestatic 47, 3) := by decide +kernel
theorem d3_48 : decode jdk_42_method_149_code 48 = .ok (.putfield 15, 3) := by decide +kernel
theorem d3_51 : decode jdk_42_method_149_code 51 = .ok (.aload_n 0, 1) := by decide +kernel
theorem d3_52 : decode jdk_42_method_149_code 52 = .ok (.aload 5, 2) := by decide +kernel
theorem d3_54 : decode jdk_42_method_149_code 54 = .ok (.putfield 9, 3) := by decide +kernel
theorem d3_57 : decode jdk_42_method_149_code 57 = .ok (.return_, 1) := by decide +kernel
theorem d3_58 : decode jdk_42_method_149_code 58 = .ok (.aload_n 0, 1) := by decide +kernel
theorem d3_59 : decode jdk_42_method_149_code 59 = .ok (.iconst 1, 1) := by decide +kernel
theorem d3_60 : decode jdk_42_method_149_code 60 = .ok (.putfield 15, 3) := by decide +kernel
theorem d3_63 : decode jdk_42_method_149_code 63 = .ok (.aload_n 0, 1) := by decide +kernel
theorem d3_64 : decode jdk_42_method_149_code 64 = .ok (.aload_n 1, 1) := by decide +kernel
theorem d3_65 : decode jdk_42_method_149_code 65 = .ok (.iload_n 2, 1) := by decide +kernel
theorem d3_66 : decode jdk_42_method_149_code 66 = .ok (.iload_n 3, 1) := by decide +kernel
theorem d3_67 : decode jdk_42_method_149_code 67 = .ok (.invokestatic 180, 3) := by decide +kernel
theorem d3_70 : decode jdk_42_method_149_code 70 = .ok (.putfield 9, 3) := by decide +kernel
theorem d3_73 : decode jdk_42_method_149_code 73 = .ok (.return_, 1) := by decide +kernel
theorem own_pn1 : plainName "java/lang/String" = true := by first | (simp [plainName, overriddenIn]; done) | decide +kernel
set_option maxRecDepth 65536 in
set_option maxHeartbeats 40000000 in
theorem rm_ini4 (l : Launch) (Z : State) (a0 : Array Value) (hw : ∀ d ∈ tables_1, d.before a0 Z = true) (zc : Int32) (dA uA : Addr) (a b : Addr) (kb : ClassId) (h0 : Heap) (n0 : Nat) (O0 : Old Z n0 h0) (hEL : EW Z a0 consts_1) (SC : Sta Z Z.heap "java/lang/String" "COMPACT_STRINGS" "Z" (.int zc)) (hz : ¬ zc = 0) (SD : Sta Z Z.heap "com/example/linkfield/linkfield/core/Verdict" "DEAD" "Lcom/example/linkfield/linkfield/core/Verdict;" (.ref dA)) (SU : Sta Z Z.heap "com/example/linkfield/linkfield/core/Verdict" "UNREACHABLE" "Lcom/example/linkfield/linkfield/core/Verdict;" (.ref uA)) (Ea : Exa Z h0 a "java/lang/String") (Va : Fld Z h0 a "java/lang/String" "value" "[B" .null) (Ca : Fld Z h0 a "java/lang/String" "coder" "B" (.int 0)) (Kb : Arv Z h0 b kb .char 0 [] (.int 0)) (ga : n0 ≤ a) :
    own_Met true l Z n0 consts_1 [a] (⟨"java/lang/String", "<init>", "([CIILjava/lang/Void;)V"⟩ : MethodName) jdk_42_method_149_code 6 none [] ({ frames := 1, cells := 4, slots := 8, locals := 12 } : Room) #[(.ref a), (.ref b), (.int (0 : Int32)), (.int (0 : Int32)), .null] h0 (fun v h => v = none ∧ Keep h0 h [a] ∧ ∃ (t : Addr) (k : ClassId), Exa Z h a "java/lang/String" ∧ Fld Z h a "java/lang/String" "coder" "B" (.int 0) ∧ Fld Z h a "java/lang/String" "value" "[B" (.ref t) ∧ Arv Z h t k .byte 0 [] (.int 0)) := by
  refine own_enter (a0 := a0) (own := "java/lang/String") (nm := "<init>") (Ls := #[.val (.ref a), .val (.ref b), .val (.int (0 : Int32)), .val (.int (0 : Int32)), .val .null, .unset]) own_pn1 O0 hEL (fun m => by first | (simp [entryFrame, mkF, argsToLocals, Value.category, maxLocals]; done) | rfl) ?_
  intro p e s m args below meth cde T0 Q hQ A0
  show own_Run p e below Q m T0 0 #[.val (.ref a), .val (.ref b), .val (.int (0 : Int32)), .val (.int (0 : Int32)), .val .null, .unset] []
  refine own_aloadN (q := 1) (v := (.ref a)) A0 d3_0 rfl rfl ?_
  refine own_initO (q := 4) (W := 0) A0 (hw _ (List.mem_of_getElem? (i := 16) rfl)) (hw _ (List.mem_of_getElem? (i := 17) rfl)) (hw _ (List.mem_of_getElem? (i := 18) rfl)) d3_1 rfl (by decide) (Nat.le_of_eq rfl) (by decide) ?_
  intro T1 A2
  refine own_iloadN (q := 5) (v := (0 : Int32)) A2 d3_4 rfl ?_
  refine own_ifcF (q := 8) A2 d3_5 (show (0 : Int32) = (0 : Int32) from rfl) ?_
  refine own_aloadN (q := 9) (v := (.ref a)) A2 d3_8 rfl rfl ?_
  refine own_ldcR (q := 11) (n := 0) (z := 0) (vs := []) A2 (hw _ (List.mem_of_getElem? (i := 106) rfl)) (own_satoms hw) (by decide) ⟨by decide +kernel, by decide +kernel⟩ (by decide) (by decide) d3_9 (by decide) (by decide) (by decide) (by decide) ?_
  intro a3 b4 k5 T6 h7 A8 E9 X10 F11 F12 V13 N14
  have K15 : Keep h0 h7 [a] := (Keep.refl h0 [a]).ext E9
  have f16 : Exa Z h7 a "java/lang/String" := Ea.ext E9
  have f17 : Fld Z h7 a "java/lang/String" "value" "[B" .null := Va.ext E9
  have f18 : Fld Z h7 a "java/lang/String" "coder" "B" (.int (0 : Int32)) := Ca.ext E9
  refine own_getF (host := "") (q := 14) A8 (Or.inl (hw _ (List.mem_of_getElem? (i := 33) rfl))) Via.refl F12 d3_11 ?_
  intro T19 A20
  refine own_putF (host := "") (q := 17) A20 (Or.inl (hw _ (List.mem_of_getElem? (i := 33) rfl))) Via.refl f17 f16 (Or.inr ⟨(hw _ (List.mem_of_getElem? (i := 34) rfl)), rfl, rfl⟩) (hw _ (List.mem_of_getElem? (i := 7) rfl)) (ty := (.array .byte)) (by decide) rfl rfl ga (Or.inl (by simp)) d3_14 ?_
  intro T21 h22 A23 W24
  have K25 : Keep h0 h22 [a] := K15.wr W24 (Or.inl (by simp))
  have f26 : Exa Z h22 a "java/lang/String" := f16.wr W24
  have f27 : Fld Z h22 a "java/lang/String" "value" "[B" (.ref b4) := f17.same W24
  have f28 : Fld Z h22 a "java/lang/String" "coder" "B" (.int (0 : Int32)) := f18.other W24 (Or.inr (slot_ne (Or.inr (hw _ (List.mem_of_getElem? (i := 32) rfl))) (Or.inr (hw _ (List.mem_of_getElem? (i := 34) rfl))) (by decide) (by decide : parseFieldDescriptor "B" = some .byte) (by decide : parseFieldDescriptor "[B" = some (.array .byte))))
  have f29 : Exa Z h22 a3 "java/lang/String" := X10.wr W24
  have f30 : Fld Z h22 a3 "java/lang/String" "coder" "B" (.int (0 : Int32)) := F11.other W24 (Or.inl (Ne.symm (N14 a (by simp)).1))
  have f31 : Fld Z h22 a3 "java/lang/String" "value" "[B" (.ref b4) := F12.other W24 (Or.inl (Ne.symm (N14 a (by simp)).1))
  have f32 : Arv Z h22 b4 k5 .byte (0 : Int32) [] (.int 0) := V13.other W24 (Ne.symm (N14 a (by simp)).2)
  refine own_aloadN (q := 18) (v := (.ref a)) A23 d3_17 rfl rfl ?_
  refine own_ldcR (q := 20) (n := 0) (z := 0) (vs := []) A23 (hw _ (List.mem_of_getElem? (i := 106) rfl)) (own_satoms hw) (by decide) ⟨by decide +kernel, by decide +kernel⟩ (by decide) (by decide) d3_18 (by decide) (by decide) (by decide) (by decide) ?_
  intro a33 b34 k35 T36 h37 A38 E39 X40 F41 F42 V43 N44
  have K45 : Keep h0 h37 [a] := K25.ext E39
  have f46 : Exa Z h37 a "java/lang/String" := f26.ext E39
  have f47 : Fld Z h37 a "java/lang/String" "value" "[B" (.ref b4) := f27.ext E39
  have f48 : Fld Z h37 a "java/lang/String" "coder" "B" (.int (0 : Int32)) := f28.ext E39
  have f49 : Exa Z h37 a3 "java/lang/String" := f29.ext E39
  have f50 : Fld Z h37 a3 "java/lang/String" "coder" "B" (.int (0 : Int32)) := f30.ext E39
  have f51 : Fld Z h37 a3 "java/lang/String" "value" "[B" (.ref b4) := f31.ext E39
  have f52 : Arv Z h37 b4 k5 .byte (0 : Int32) [] (.int 0) := f32.ext E39
  refine own_getF (host := "") (q := 23) A38 (Or.inl (hw _ (List.mem_of_getElem? (i := 31) rfl))) Via.refl F41 d3_20 ?_
  intro T53 A54
  refine own_putF (host := "") (q := 26) A54 (Or.inl (hw _ (List.mem_of_getElem? (i := 31) rfl))) Via.refl f48 f46 (Or.inr ⟨(hw _ (List.mem_of_getElem? (i := 32) rfl)), rfl, rfl⟩) (hw _ (List.mem_of_getElem? (i := 7) rfl)) (ty := .byte) (by decide) rfl rfl ga (Or.inl (by simp)) d3_23 ?_
  intro T55 h56 A57 W58
  have K59 : Keep h0 h56 [a] := K45.wr W58 (Or.inl (by simp))
  have f60 : Exa Z h56 a "java/lang/String" := f46.wr W58
  have f61 : Fld Z h56 a "java/lang/String" "value" "[B" (.ref b4) := f47.other W58 (Or.inr (slot_ne (Or.inr (hw _ (List.mem_of_getElem? (i := 34) rfl))) (Or.inr (hw _ (List.mem_of_getElem? (i := 32) rfl))) (by decide) (by decide : parseFieldDescriptor "[B" = some (.array .byte)) (by decide : parseFieldDescriptor "B" = some .byte)))
  have f62 : Fld Z h56 a "java/lang/String" "coder" "B" (.int (0 : Int32)) := f48.same W58
  have f63 : Exa Z h56 a3 "java/lang/String" := f49.wr W58
  have f64 : Fld Z h56 a3 "java/lang/String" "coder" "B" (.int (0 : Int32)) := f50.other W58 (Or.inl (Ne.symm (N14 a (by simp)).1))
  have f65 : Fld Z h56 a3 "java/lang/String" "value" "[B" (.ref b4) := f51.other W58 (Or.inl (Ne.symm (N14 a (by simp)).1))
  have f66 : Arv Z h56 b4 k5 .byte (0 : Int32) [] (.int 0) := f52.other W58 (Ne.symm (N14 a (by simp)).2)
  have f67 : Exa Z h56 a33 "java/lang/String" := X40.wr W58
  have f68 : Fld Z h56 a33 "java/lang/String" "coder" "B" (.int (0 : Int32)) := F41.other W58 (Or.inl (Ne.symm (N44 a (by simp)).1))
  have f69 : Fld Z h56 a33 "java/lang/String" "value" "[B" (.ref b34) := F42.other W58 (Or.inl (Ne.symm (N44 a (by simp)).1))
  have f70 : Arv Z h56 b34 k35 .byte (0 : Int32) [] (.int 0) := V43.other W58 (Ne.symm (N44 a (by simp)).2)
  exact own_ret0 A57 hQ d3_26 ⟨rfl, K59, b4, k5, f60, f62, f61, f66⟩
theorem d2_0 : decode jdk_42_method_3_code 0 = .ok (.aload_n 0, 1) := by decide +kernel
theorem d2_1 : decode jdk_42_method_3_code 1 = .ok (.aload_n 1, 1) := by decide +kernel
theorem d2_2 : decode jdk_42_method_3_code 2 = .ok (.iconst 0, 1) := by decide +kernel
theorem d2_3 : decode jdk_42_method_3_code 3 = .ok (.aload_n 1, 1) := by decide +kernel
theorem d2_4 : decode jdk_42_method_3_code 4 = .ok (.arraylength, 1) := by decide +kernel
theorem d2_5 : decode jdk_42_method_3_code 5 = .ok (.aconst_null, 1) := by decide +kernel
theorem d2_6 : decode jdk_42_method_3_code 6 = .ok (.invokespecial 27, 3) := by decide +kernel
theorem d2_9 : decode jdk_42_method_3_code 9 = .ok (.return_, 1) := by decide +kernel
set_option maxRecDepth 65536 in
set_option maxHeartbeats 40000000 in
theorem rm_ini (l : Launch) (Z : State) (a0 : Array Value) (hw : ∀ d ∈ tables_1, d.before a0 Z = true) (zc : Int32) (dA uA : Addr) (a b : Addr) (kb : ClassId) (h0 : Heap) (n0 : Nat) (O0 : Old Z n0 h0) (hEL : EW Z a0 consts_1) (SC : Sta Z Z.heap "java/lang/String" "COMPACT_STRINGS" "Z" (.int zc)) (hz : ¬ zc = 0) (SD : Sta Z Z.heap "com/example/linkfield/linkfield/core/Verdict" "DEAD" "Lcom/example/linkfield/linkfield/core/Verdict;" (.ref dA)) (SU : Sta Z Z.heap "com/example/linkfield/linkfield/core/Verdict" "UNREACHABLE" "Lcom/example/linkfield/linkfield/core/Verdict;" (.ref uA)) (Ea : Exa Z h0 a "java/lang/String") (Va : Fld Z h0 a "java/lang/String" "value" "[B" .null) (Ca : Fld Z h0 a "java/lang/String" "coder" "B" (.int 0)) (Kb : Arv Z h0 b kb .char 0 [] (.int 0)) (ga : n0 ≤ a) :
    own_Met true l Z n0 consts_1 [a] (⟨"java/lang/String", "<init>", "([C)V"⟩ : MethodName) jdk_42_method_3_code 2 none [] ({ frames := 2, cells := 4, slots := 8, locals := 29 } : Room) #[(.ref a), (.ref b)] h0 (fun v h => v = none ∧ Keep h0 h [a] ∧ ∃ (t : Addr) (k : ClassId), Exa Z h a "java/lang/String" ∧ Fld Z h a "java/lang/String" "coder" "B" (.int 0) ∧ Fld Z h a "java/lang/String" "value" "[B" (.ref t) ∧ Arv Z h t k .byte 0 [] (.int 0)) := by
  refine own_enter (a0 := a0) (own := "java/lang/String") (nm := "<init>") (Ls := #[.val (.ref a), .val (.ref b)]) own_pn1 O0 hEL (fun m => by first | (simp [entryFrame, mkF, argsToLocals, Value.category, maxLocals]; done) | rfl) ?_
  intro p e s m args below meth cde T0 Q hQ A0
  show own_Run p e below Q m T0 0 #[.val (.ref a), .val (.ref b)] []
  refine own_aloadN (q := 1) (v := (.ref a)) A0 d2_0 rfl rfl ?_
  refine own_aloadN (q := 2) (v := (.ref b)) A0 d2_1 rfl rfl ?_
  refine own_iconst (q := 3) A0 (0 : Int32) d2_2 rfl ?_
  refine own_aloadN (q := 4) (v := (.ref b)) A0 d2_3 rfl rfl ?_
  refine own_arrlenv (q := 5) A0 Kb d2_4 ?_
  refine own_aconstNull (q := 6) A0 d2_5 ?_
  refine own_specialW (q := 9) (W := 0) (argsL := [(.ref b), (.int (0 : Int32)), (.int (0 : Int32)), .null]) (rest := []) A0 rfl (hw _ (List.mem_of_getElem? (i := 12) rfl)) (hw _ (List.mem_of_getElem? (i := 13) rfl)) (hw _ (List.mem_of_getElem? (i := 15) rfl)) (by decide) (own_payW (rm_ini4 l Z a0 hw zc dA uA a b kb h0 n0 A0.old hEL SC hz SD SU Ea Va Ca Kb ga) (hw _ (List.mem_of_getElem? (i := 15) rfl)) (hw _ (List.mem_of_getElem? (i := 8) rfl)) (by decide) (by decide)) (by simp) (Nat.le_of_eq rfl) own_pd9 rfl rfl rfl d2_6 (by decide) (by decide) ?_
  rintro v2 T3 h4 A5 ⟨rfl, q1⟩
  show own_Run p e below Q m T3 9 #[.val (.ref a), .val (.ref b)] []
  exact own_ret0 A5 hQ d2_9 ⟨rfl, q1⟩
theorem d12_0 : decode jdk_30_method_1_code 0 = .ok (.aload_n 0, 1) := by decide +kernel
theorem d12_1 : decode jdk_30_method_1_code 1 = .ok (.invokespecial 1, 3) := by decide +kernel
theorem d12_4 : decode jdk_30_method_1_code 4 = .ok (.return_, 1) := by decide +kernel
theorem own_pn2 : plainName "java/lang/Record" = true := by first | (simp [plainName, overriddenIn]; done) | decide +kernel
set_option maxRecDepth 65536 in
set_option maxHeartbeats 40000000 in
theorem rm_rec (l : Launch) (Z : State) (a0 : Array Value) (hw : ∀ d ∈ tables_1, d.before a0 Z = true) (zc : Int32) (dA uA : Addr) (a : Addr) (h0 : Heap) (n0 : Nat) (O0 : Old Z n0 h0) (hEL : EW Z a0 consts_1) (SC : Sta Z Z.heap "java/lang/String" "COMPACT_STRINGS" "Z" (.int zc)) (hz : ¬ zc = 0) (SD : Sta Z Z.heap "com/example/linkfield/linkfield/core/Verdict" "DEAD" "Lcom/example/linkfield/linkfield/core/Verdict;" (.ref dA)) (SU : Sta Z Z.heap "com/example/linkfield/linkfield/core/Verdict" "UNREACHABLE" "Lcom/example/linkfield/linkfield/core/Verdict;" (.ref uA))  :
    own_Met true l Z n0 consts_1 [] (⟨"java/lang/Record", "<init>", "()V"⟩ : MethodName) jdk_30_method_1_code 1 none [] ({ frames := 1, cells := 0, slots := 0, locals := 12 } : Room) #[(.ref a)] h0 (fun v h => v = none ∧ h0 = h) := by
  refine own_enter (a0 := a0) (own := "java/lang/Record") (nm := "<init>") (Ls := #[.val (.ref a)]) own_pn2 O0 hEL (fun m => by first | (simp [entryFrame, mkF, argsToLocals, Value.category, maxLocals]; done) | rfl) ?_
  intro p e s m args below meth cde T0 Q hQ A0
  show own_Run p e below Q m T0 0 #[.val (.ref a)] []
  refine own_aloadN (q := 1) (v := (.ref a)) A0 d12_0 rfl rfl ?_
  refine own_initO (q := 4) (W := 0) A0 (hw _ (List.mem_of_getElem? (i := 66) rfl)) (hw _ (List.mem_of_getElem? (i := 17) rfl)) (hw _ (List.mem_of_getElem? (i := 18) rfl)) d12_1 rfl (by decide) (Nat.le_of_eq rfl) (by decide) ?_
  intro T1 A2
  exact own_ret0 A2 hQ d12_4 ⟨rfl, rfl⟩
theorem d11_0 : decode prog_25_method_1_code 0 = .ok (.aload_n 0, 1) := by decide +kernel
theorem d11_1 : decode prog_25_method_1_code 1 = .ok (.invokespecial 1, 3) := by decide +kernel
theorem d11_4 : decode prog_25_method_1_code 4 = .ok (.aload_n 0, 1) := by decide +kernel
theorem d11_5 : decode prog_25_method_1_code 5 = .ok (.aload_n 1, 1) := by decide +kernel
theorem d11_6 : decode prog_25_method_1_code 6 = .ok (.putfield 7, 3) := by decide +kernel
theorem d11_9 : decode prog_25_method_1_code 9 = .ok (.aload_n 0, 1) := by decide +kernel
theorem d11_10 : decode prog_25_method_1_code 10 = .ok (.aload_n 2, 1) := by decide +kernel
theorem d11_11 : decode prog_25_method_1_code 11 = .ok (.putfield 13, 3) := by decide +kernel
theorem d11_14 : decode prog_25_method_1_code 14 = .ok (.aload_n 0, 1) := by decide +kernel
theorem d11_15 : decode prog_25_method_1_code 15 = .ok (.aload_n 3, 1) := by decide +kernel
theorem d11_16 : decode prog_25_method_1_code 16 = .ok (.putfield 17, 3) := by decide +kernel
theorem d11_19 : decode prog_25_method_1_code 19 = .ok (.return_, 1) := by decide +kernel
theorem own_pn3 : plainName "com/example/linkfield/linkfield/core/HttpCheck" = true := by first | (simp [plainName, overriddenIn]; done) | decide +kernel
set_option maxRecDepth 65536 in
set_option maxHeartbeats 40000000 in
theorem rm_ctor (l : Launch) (Z : State) (a0 : Array Value) (hw : ∀ d ∈ tables_1, d.before a0 Z = true) (zc : Int32) (dA uA : Addr) (a vd sx lc : Addr) (h0 : Heap) (n0 : Nat) (O0 : Old Z n0 h0) (hEL : EW Z a0 consts_1) (SC : Sta Z Z.heap "java/lang/String" "COMPACT_STRINGS" "Z" (.int zc)) (hz : ¬ zc = 0) (SD : Sta Z Z.heap "com/example/linkfield/linkfield/core/Verdict" "DEAD" "Lcom/example/linkfield/linkfield/core/Verdict;" (.ref dA)) (SU : Sta Z Z.heap "com/example/linkfield/linkfield/core/Verdict" "UNREACHABLE" "Lcom/example/linkfield/linkfield/core/Verdict;" (.ref uA)) (Ea : Exa Z h0 a "com/example/linkfield/linkfield/core/HttpCheck") (F0 : Fld Z h0 a "com/example/linkfield/linkfield/core/HttpCheck" "verdict" "Lcom/example/linkfield/linkfield/core/Verdict;" .null) (F1 : Fld Z h0 a "com/example/linkfield/linkfield/core/HttpCheck" "status" "Ljava/lang/String;" .null) (F2 : Fld Z h0 a "com/example/linkfield/linkfield/core/HttpCheck" "location" "Ljava/lang/String;" .null) (ga : n0 ≤ a) :
    own_Met true l Z n0 consts_1 [a] (⟨"com/example/linkfield/linkfield/core/HttpCheck", "<init>", "(Lcom/example/linkfield/linkfield/core/Verdict;Ljava/lang/String;Ljava/lang/String;)V"⟩ : MethodName) prog_25_method_1_code 4 none [] ({ frames := 2, cells := 0, slots := 0, locals := 24 } : Room) #[(.ref a), (.ref vd), (.ref sx), (.ref lc)] h0 (fun v h => v = none ∧ Keep h0 h [a] ∧ Exa Z h a "com/example/linkfield/linkfield/core/HttpCheck" ∧ Fld Z h a "com/example/linkfield/linkfield/core/HttpCheck" "verdict" "Lcom/example/linkfield/linkfield/core/Verdict;" (.ref vd) ∧ Fld Z h a "com/example/linkfield/linkfield/core/HttpCheck" "status" "Ljava/lang/String;" (.ref sx) ∧ Fld Z h a "com/example/linkfield/linkfield/core/HttpCheck" "location" "Ljava/lang/String;" (.ref lc)) := by
  refine own_enter (a0 := a0) (own := "com/example/linkfield/linkfield/core/HttpCheck") (nm := "<init>") (Ls := #[.val (.ref a), .val (.ref vd), .val (.ref sx), .val (.ref lc)]) own_pn3 O0 hEL (fun m => by first | (simp [entryFrame, mkF, argsToLocals, Value.category, maxLocals]; done) | rfl) ?_
  intro p e s m args below meth cde T0 Q hQ A0
  show own_Run p e below Q m T0 0 #[.val (.ref a), .val (.ref vd), .val (.ref sx), .val (.ref lc)] []
  refine own_aloadN (q := 1) (v := (.ref a)) A0 d11_0 rfl rfl ?_
  refine own_specialW (q := 4) (W := 0) (argsL := []) (rest := []) A0 rfl (hw _ (List.mem_of_getElem? (i := 61) rfl)) (hw _ (List.mem_of_getElem? (i := 62) rfl)) (hw _ (List.mem_of_getElem? (i := 65) rfl)) (by decide) (own_payW (rm_rec l Z a0 hw zc dA uA a h0 n0 A0.old hEL SC hz SD SU ) (hw _ (List.mem_of_getElem? (i := 65) rfl)) (hw _ (List.mem_of_getElem? (i := 64) rfl)) (by decide) (by decide)) (fun _ z => nomatch z) (Nat.le_of_eq rfl) own_pd5 rfl rfl rfl d11_1 (by decide) (by decide) ?_
  rintro v1 T2 h3 A4 ⟨rfl, rfl⟩
  show own_Run p e below Q m T2 4 #[.val (.ref a), .val (.ref vd), .val (.ref sx), .val (.ref lc)] []
  refine own_aloadN (q := 5) (v := (.ref a)) A4 d11_4 rfl rfl ?_
  refine own_aloadN (q := 6) (v := (.ref vd)) A4 d11_5 rfl rfl ?_
  refine own_putF (host := "") (q := 9) A4 (Or.inl (hw _ (List.mem_of_getElem? (i := 67) rfl))) Via.refl F0 Ea (Or.inr ⟨(hw _ (List.mem_of_getElem? (i := 68) rfl)), rfl, rfl⟩) (hw _ (List.mem_of_getElem? (i := 40) rfl)) (ty := (.object "com/example/linkfield/linkfield/core/Verdict")) (by decide) rfl rfl ga (Or.inl (by simp)) d11_6 ?_
  intro T5 h6 A7 W8
  have K9 : Keep h0 h6 [a] := (Keep.refl h0 [a]).wr W8 (Or.inl (by simp))
  have f10 : Exa Z h6 a "com/example/linkfield/linkfield/core/HttpCheck" := Ea.wr W8
  have f11 : Fld Z h6 a "com/example/linkfield/linkfield/core/HttpCheck" "verdict" "Lcom/example/linkfield/linkfield/core/Verdict;" (.ref vd) := F0.same W8
  have f12 : Fld Z h6 a "com/example/linkfield/linkfield/core/HttpCheck" "status" "Ljava/lang/String;" .null := F1.other W8 (Or.inr (slot_ne (Or.inr (hw _ (List.mem_of_getElem? (i := 70) rfl))) (Or.inr (hw _ (List.mem_of_getElem? (i := 68) rfl))) (by decide) (by decide : parseFieldDescriptor "Ljava/lang/String;" = some (.object "java/lang/String")) (by decide : parseFieldDescriptor "Lcom/example/linkfield/linkfield/core/Verdict;" = some (.object "com/example/linkfield/linkfield/core/Verdict"))))
  have f13 : Fld Z h6 a "com/example/linkfield/linkfield/core/HttpCheck" "location" "Ljava/lang/String;" .null := F2.other W8 (Or.inr (slot_ne (Or.inr (hw _ (List.mem_of_getElem? (i := 72) rfl))) (Or.inr (hw _ (List.mem_of_getElem? (i := 68) rfl))) (by decide) (by decide : parseFieldDescriptor "Ljava/lang/String;" = some (.object "java/lang/String")) (by decide : parseFieldDescriptor "Lcom/example/linkfield/linkfield/core/Verdict;" = some (.object "com/example/linkfield/linkfield/core/Verdict"))))
  refine own_aloadN (q := 10) (v := (.ref a)) A7 d11_9 rfl rfl ?_
  refine own_aloadN (q := 11) (v := (.ref sx)) A7 d11_10 rfl rfl ?_
  refine own_putF (host := "") (q := 14) A7 (Or.inl (hw _ (List.mem_of_getElem? (i := 69) rfl))) Via.refl f12 f10 (Or.inr ⟨(hw _ (List.mem_of_getElem? (i := 70) rfl)), rfl, rfl⟩) (hw _ (List.mem_of_getElem? (i := 40) rfl)) (ty := (.object "java/lang/String")) (by decide) rfl rfl ga (Or.inl (by simp)) d11_11 ?_
  intro T14 h15 A16 W17
  have K18 : Keep h0 h15 [a] := K9.wr W17 (Or.inl (by simp))
  have f19 : Exa Z h15 a "com/example/linkfield/linkfield/core/HttpCheck" := f10.wr W17
  have f20 : Fld Z h15 a "com/example/linkfield/linkfield/core/HttpCheck" "verdict" "Lcom/example/linkfield/linkfield/core/Verdict;" (.ref vd) := f11.other W17 (Or.inr (slot_ne (Or.inr (hw _ (List.mem_of_getElem? (i := 68) rfl))) (Or.inr (hw _ (List.mem_of_getElem? (i := 70) rfl))) (by decide) (by decide : parseFieldDescriptor "Lcom/example/linkfield/linkfield/core/Verdict;" = some (.object "com/example/linkfield/linkfield/core/Verdict")) (by decide : parseFieldDescriptor "Ljava/lang/String;" = some (.object "java/lang/String"))))
  have f21 : Fld Z h15 a "com/example/linkfield/linkfield/core/HttpCheck" "status" "Ljava/lang/String;" (.ref sx) := f12.same W17
  have f22 : Fld Z h15 a "com/example/linkfield/linkfield/core/HttpCheck" "location" "Ljava/lang/String;" .null := f13.other W17 (Or.inr (slot_ne (Or.inr (hw _ (List.mem_of_getElem? (i := 72) rfl))) (Or.inr (hw _ (List.mem_of_getElem? (i := 70) rfl))) (by decide) (by decide : parseFieldDescriptor "Ljava/lang/String;" = some (.object "java/lang/String")) (by decide : parseFieldDescriptor "Ljava/lang/String;" = some (.object "java/lang/String"))))
  refine own_aloadN (q := 15) (v := (.ref a)) A16 d11_14 rfl rfl ?_
  refine own_aloadN (q := 16) (v := (.ref lc)) A16 d11_15 rfl rfl ?_
  refine own_putF (host := "") (q := 19) A16 (Or.inl (hw _ (List.mem_of_getElem? (i := 71) rfl))) Via.refl f22 f19 (Or.inr ⟨(hw _ (List.mem_of_getElem? (i := 72) rfl)), rfl, rfl⟩) (hw _ (List.mem_of_getElem? (i := 40) rfl)) (ty := (.object "java/lang/String")) (by decide) rfl rfl ga (Or.inl (by simp)) d11_16 ?_
  intro T23 h24 A25 W26
  have K27 : Keep h0 h24 [a] := K18.wr W26 (Or.inl (by simp))
  have f28 : Exa Z h24 a "com/example/linkfield/linkfield/core/HttpCheck" := f19.wr W26
  have f29 : Fld Z h24 a "com/example/linkfield/linkfield/core/HttpCheck" "verdict" "Lcom/example/linkfield/linkfield/core/Verdict;" (.ref vd) := f20.other W26 (Or.inr (slot_ne (Or.inr (hw _ (List.mem_of_getElem? (i := 68) rfl))) (Or.inr (hw _ (List.mem_of_getElem? (i := 72) rfl))) (by decide) (by decide : parseFieldDescriptor "Lcom/example/linkfield/linkfield/core/Verdict;" = some (.object "com/example/linkfield/linkfield/core/Verdict")) (by decide : parseFieldDescriptor "Ljava/lang/String;" = some (.object "java/lang/String"))))
  have f30 : Fld Z h24 a "com/example/linkfield/linkfield/core/HttpCheck" "status" "Ljava/lang/String;" (.ref sx) := f21.other W26 (Or.inr (slot_ne (Or.inr (hw _ (List.mem_of_getElem? (i := 70) rfl))) (Or.inr (hw _ (List.mem_of_getElem? (i := 72) rfl))) (by decide) (by decide : parseFieldDescriptor "Ljava/lang/String;" = some (.object "java/lang/String")) (by decide : parseFieldDescriptor "Ljava/lang/String;" = some (.object "java/lang/String"))))
  have f31 : Fld Z h24 a "com/example/linkfield/linkfield/core/HttpCheck" "location" "Ljava/lang/String;" (.ref lc) := f22.same W26
  exact own_ret0 A25 hQ d11_19 ⟨rfl, K27, f28, f29, f30, f31⟩
theorem d13_0 : decode prog_25_method_7_code 0 = .ok (.aload_n 0, 1) := by decide +kernel
theorem d13_1 : decode prog_25_method_7_code 1 = .ok (.getfield 7, 3) := by decide +kernel
theorem d13_4 : decode prog_25_method_7_code 4 = .ok (.areturn, 1) := by decide +kernel
set_option maxRecDepth 65536 in
set_option maxHeartbeats 40000000 in
theorem rm_ver (l : Launch) (Z : State) (a0 : Array Value) (hw : ∀ d ∈ tables_1, d.before a0 Z = true) (zc : Int32) (dA uA : Addr) (a v : Addr) (h0 : Heap) (n0 : Nat) (O0 : Old Z n0 h0) (hEL : EW Z a0 consts_1) (SC : Sta Z Z.heap "java/lang/String" "COMPACT_STRINGS" "Z" (.int zc)) (hz : ¬ zc = 0) (SD : Sta Z Z.heap "com/example/linkfield/linkfield/core/Verdict" "DEAD" "Lcom/example/linkfield/linkfield/core/Verdict;" (.ref dA)) (SU : Sta Z Z.heap "com/example/linkfield/linkfield/core/Verdict" "UNREACHABLE" "Lcom/example/linkfield/linkfield/core/Verdict;" (.ref uA)) (F : Fld Z h0 a "com/example/linkfield/linkfield/core/HttpCheck" "verdict" "Lcom/example/linkfield/linkfield/core/Verdict;" (.ref v)) :
    own_Met true l Z n0 consts_1 [] (⟨"com/example/linkfield/linkfield/core/HttpCheck", "verdict", "()Lcom/example/linkfield/linkfield/core/Verdict;"⟩ : MethodName) prog_25_method_7_code 1 (some (.object "com/example/linkfield/linkfield/core/Verdict")) [] ({ frames := 0, cells := 0, slots := 0, locals := 0 } : Room) #[(.ref a)] h0 (fun u h => u = some (.ref v) ∧ h0 = h) := by
  refine own_enter (a0 := a0) (own := "com/example/linkfield/linkfield/core/HttpCheck") (nm := "verdict") (Ls := #[.val (.ref a)]) own_pn3 O0 hEL (fun m => by first | (simp [entryFrame, mkF, argsToLocals, Value.category, maxLocals]; done) | rfl) ?_
  intro p e s m args below meth cde T0 Q hQ A0
  show own_Run p e below Q m T0 0 #[.val (.ref a)] []
  refine own_aloadN (q := 1) (v := (.ref a)) A0 d13_0 rfl rfl ?_
  refine own_getF (host := "") (q := 4) A0 (Or.inl (hw _ (List.mem_of_getElem? (i := 67) rfl))) Via.refl F d13_1 ?_
  intro T1 A2
  exact own_retA A2 hQ rfl rfl rfl d13_4 ⟨rfl, rfl⟩
theorem d14_0 : decode prog_25_method_8_code 0 = .ok (.aload_n 0, 1) := by decide +kernel
theorem d14_1 : decode prog_25_method_8_code 1 = .ok (.getfield 13, 3) := by decide +kernel
theorem d14_4 : decode prog_25_method_8_code 4 = .ok (.areturn, 1) := by decide +kernel
set_option maxRecDepth 65536 in
set_option maxHeartbeats 40000000 in
theorem rm_sta (l : Launch) (Z : State) (a0 : Array Value) (hw : ∀ d ∈ tables_1, d.before a0 Z = true) (zc : Int32) (dA uA : Addr) (a v : Addr) (h0 : Heap) (n0 : Nat) (O0 : Old Z n0 h0) (hEL : EW Z a0 consts_1) (SC : Sta Z Z.heap "java/lang/String" "COMPACT_STRINGS" "Z" (.int zc)) (hz : ¬ zc = 0) (SD : Sta Z Z.heap "com/example/linkfield/linkfield/core/Verdict" "DEAD" "Lcom/example/linkfield/linkfield/core/Verdict;" (.ref dA)) (SU : Sta Z Z.heap "com/example/linkfield/linkfield/core/Verdict" "UNREACHABLE" "Lcom/example/linkfield/linkfield/core/Verdict;" (.ref uA)) (F : Fld Z h0 a "com/example/linkfield/linkfield/core/HttpCheck" "status" "Ljava/lang/String;" (.ref v)) :
    own_Met true l Z n0 consts_1 [] (⟨"com/example/linkfield/linkfield/core/HttpCheck", "status", "()Ljava/lang/String;"⟩ : MethodName) prog_25_method_8_code 1 (some (.object "java/lang/String")) [] ({ frames := 0, cells := 0, slots := 0, locals := 0 } : Room) #[(.ref a)] h0 (fun u h => u = some (.ref v) ∧ h0 = h) := by
  refine own_enter (a0 := a0) (own := "com/example/linkfield/linkfield/core/HttpCheck") (nm := "status") (Ls := #[.val (.ref a)]) own_pn3 O0 hEL (fun m => by first | (simp [entryFrame, mkF, argsToLocals, Value.category, maxLocals]; done) | rfl) ?_
  intro p e s m args below meth cde T0 Q hQ A0
  show own_Run p e below Q m T0 0 #[.val (.ref a)] []
  refine own_aloadN (q := 1) (v := (.ref a)) A0 d14_0 rfl rfl ?_
  refine own_getF (host := "") (q := 4) A0 (Or.inl (hw _ (List.mem_of_getElem? (i := 69) rfl))) Via.refl F d14_1 ?_
  intro T1 A2
  exact own_retA A2 hQ rfl rfl rfl d14_4 ⟨rfl, rfl⟩
theorem d15_0 : decode prog_25_method_9_code 0 = .ok (.aload_n 0, 1) := by decide +kernel
theorem d15_1 : decode prog_25_method_9_code 1 = .ok (.getfield 17, 3) := by decide +kernel
theorem d15_4 : decode prog_25_method_9_code 4 = .ok (.areturn, 1) := by decide +kernel
set_option maxRecDepth 65536 in
set_option maxHeartbeats 40000000 in
theorem rm_loc (l : Launch) (Z : State) (a0 : Array Value) (hw : ∀ d ∈ tables_1, d.before a0 Z = true) (zc : Int32) (dA uA : Addr) (a v : Addr) (h0 : Heap) (n0 : Nat) (O0 : Old Z n0 h0) (hEL : EW Z a0 consts_1) (SC : Sta Z Z.heap "java/lang/String" "COMPACT_STRINGS" "Z" (.int zc)) (hz : ¬ zc = 0) (SD : Sta Z Z.heap "com/example/linkfield/linkfield/core/Verdict" "DEAD" "Lcom/example/linkfield/linkfield/core/Verdict;" (.ref dA)) (SU : Sta Z Z.heap "com/example/linkfield/linkfield/core/Verdict" "UNREACHABLE" "Lcom/example/linkfield/linkfield/core/Verdict;" (.ref uA)) (F : Fld Z h0 a "com/example/linkfield/linkfield/core/HttpCheck" "location" "Ljava/lang/String;" (.ref v)) :
    own_Met true l Z n0 consts_1 [] (⟨"com/example/linkfield/linkfield/core/HttpCheck", "location", "()Ljava/lang/String;"⟩ : MethodName) prog_25_method_9_code 1 (some (.object "java/lang/String")) [] ({ frames := 0, cells := 0, slots := 0, locals := 0 } : Room) #[(.ref a)] h0 (fun u h => u = some (.ref v) ∧ h0 = h) := by
  refine own_enter (a0 := a0) (own := "com/example/linkfield/linkfield/core/HttpCheck") (nm := "location") (Ls := #[.val (.ref a)]) own_pn3 O0 hEL (fun m => by first | (simp [entryFrame, mkF, argsToLocals, Value.category, maxLocals]; done) | rfl) ?_
  intro p e s m args below meth cde T0 Q hQ A0
  show own_Run p e below Q m T0 0 #[.val (.ref a)] []
  refine own_aloadN (q := 1) (v := (.ref a)) A0 d15_0 rfl rfl ?_
  refine own_getF (host := "") (q := 4) A0 (Or.inl (hw _ (List.mem_of_getElem? (i := 71) rfl))) Via.refl F d15_1 ?_
  intro T1 A2
  exact own_retA A2 hQ rfl rfl rfl d15_4 ⟨rfl, rfl⟩
theorem d8_0 : decode prog_25_method_2_code 0 = .ok (.new 8, 3) := by decide +kernel
theorem d8_3 : decode prog_25_method_2_code 3 = .ok (.dup, 1) := by decide +kernel
theorem d8_4 : decode prog_25_method_2_code 4 = .ok (.aload_n 0, 1) := by decide +kernel
theorem d8_5 : decode prog_25_method_2_code 5 = .ok (.ldc 20, 2) := by decide +kernel
theorem d8_7 : decode prog_25_method_2_code 7 = .ok (.invokevirtual 22, 3) := by decide +kernel
theorem d8_10 : decode prog_25_method_2_code 10 = .ok (.ifCond .eq 9, 3) := by decide +kernel
theorem d8_13 : decode prog_25_method_2_code 13 = .ok (.getstatic 28, 3) := by decide +kernel
theorem d8_16 : decode prog_25_method_2_code 16 = .ok (.goto 6, 3) := by decide +kernel
theorem d8_19 : decode prog_25_method_2_code 19 = .ok (.getstatic 33, 3) := by decide +kernel
theorem d8_22 : decode prog_25_method_2_code 22 = .ok (.aload_n 0, 1) := by decide +kernel
theorem d8_23 : decode prog_25_method_2_code 23 = .ok (.ldc 36, 2) := by decide +kernel
theorem d8_25 : decode prog_25_method_2_code 25 = .ok (.invokespecial 38, 3) := by decide +kernel
theorem d8_28 : decode prog_25_method_2_code 28 = .ok (.areturn, 1) := by decide +kernel
set_option maxRecDepth 65536 in
set_option maxHeartbeats 40000000 in
theorem rm_una1 (l : Launch) (Z : State) (a0 : Array Value) (hw : ∀ d ∈ tables_1, d.before a0 Z = true) (zc : Int32) (dA uA : Addr) (sx t : Addr) (kt : ClassId) (cs : List Int32) (N : Int32) (vs : List Value) (h0 : Heap) (n0 : Nat) (O0 : Old Z n0 h0) (hEL : EW Z a0 consts_1) (SC : Sta Z Z.heap "java/lang/String" "COMPACT_STRINGS" "Z" (.int zc)) (hz : ¬ zc = 0) (SD : Sta Z Z.heap "com/example/linkfield/linkfield/core/Verdict" "DEAD" "Lcom/example/linkfield/linkfield/core/Verdict;" (.ref dA)) (SU : Sta Z Z.heap "com/example/linkfield/linkfield/core/Verdict" "UNREACHABLE" "Lcom/example/linkfield/linkfield/core/Verdict;" (.ref uA)) (Ex : Exa Z h0 sx "java/lang/String") (Vx : Fld Z h0 sx "java/lang/String" "value" "[B" (.ref t)) (Cx : Fld Z h0 sx "java/lang/String" "coder" "B" (.int 0)) (Kx : Arv Z h0 t kt .byte N vs (.int 0)) (hcod : StrChars.Road.CodA cs 0 N vs) (hb : ∀ c ∈ cs, ¬ c < 0 ∧ ¬ (65535 : Int32) < c) (l2 : cs.length ≤ 4000) (hcs : cs = [(114 : Int32), (101 : Int32), (100 : Int32), (105 : Int32), (114 : Int32), (101 : Int32), (99 : Int32), (116 : Int32), (115 : Int32)]) :
    own_Met true l Z n0 consts_1 [] (⟨"com/example/linkfield/linkfield/core/HttpCheck", "unanswered", "(Ljava/lang/String;)Lcom/example/linkfield/linkfield/core/HttpCheck;"⟩ : MethodName) prog_25_method_2_code 1 (some (.object "com/example/linkfield/linkfield/core/HttpCheck")) [] ({ frames := 3, cells := 5, slots := 47, locals := 40 } : Room) #[(.ref sx)] h0 (fun v h => ∃ (a lc tl : Addr) (kl : ClassId), v = some (.ref a) ∧ Keep h0 h [] ∧ Exa Z h a "com/example/linkfield/linkfield/core/HttpCheck" ∧ Fld Z h a "com/example/linkfield/linkfield/core/HttpCheck" "verdict" "Lcom/example/linkfield/linkfield/core/Verdict;" (.ref dA) ∧ Fld Z h a "com/example/linkfield/linkfield/core/HttpCheck" "status" "Ljava/lang/String;" (.ref sx) ∧ Fld Z h a "com/example/linkfield/linkfield/core/HttpCheck" "location" "Ljava/lang/String;" (.ref lc) ∧ Exa Z h lc "java/lang/String" ∧ Fld Z h lc "java/lang/String" "coder" "B" (.int 0) ∧ Fld Z h lc "java/lang/String" "value" "[B" (.ref tl) ∧ Arv Z h tl kl .byte 0 [] (.int 0)) := by
  refine own_enter (a0 := a0) (own := "com/example/linkfield/linkfield/core/HttpCheck") (nm := "unanswered") (Ls := #[.val (.ref sx)]) own_pn3 O0 hEL (fun m => by first | (simp [entryFrame, mkF, argsToLocals, Value.category, maxLocals]; done) | rfl) ?_
  intro p e s m args below meth cde T0 Q hQ A0
  show own_Run p e below Q m T0 0 #[.val (.ref sx)] []
  refine own_newO (q := 3) A0 (hw _ (List.mem_of_getElem? (i := 39) rfl)) (hw _ (List.mem_of_getElem? (i := 40) rfl)) (hw _ (List.mem_of_getElem? (i := 37) rfl)) d8_0 (by decide) (by decide) ?_
  intro T1 h2 a3 g4 g5 A6 E7 X8 D9
  have z10 : sx ≠ a3 := Nat.ne_of_lt (Nat.lt_of_lt_of_le Ex.lt (Nat.le_of_eq g4))
  have z11 : t ≠ a3 := Nat.ne_of_lt (Nat.lt_of_lt_of_le Kx.lt (Nat.le_of_eq g4))
  have K12 : Keep h0 h2 [] := (Keep.refl h0 []).ext E7
  have f13 : Exa Z h2 sx "java/lang/String" := Ex.ext E7
  have f14 : Fld Z h2 sx "java/lang/String" "value" "[B" (.ref t) := Vx.ext E7
  have f15 : Fld Z h2 sx "java/lang/String" "coder" "B" (.int (0 : Int32)) := Cx.ext E7
  have f16 : Arv Z h2 t kt .byte N vs (.int 0) := Kx.ext E7
  have f17 : Fld Z h2 a3 "com/example/linkfield/linkfield/core/HttpCheck" "verdict" "Lcom/example/linkfield/linkfield/core/Verdict;" .null := D9 (Or.inr (hw _ (List.mem_of_getElem? (i := 68) rfl))) (ty := (.object "com/example/linkfield/linkfield/core/Verdict")) (by decide)
  have f18 : Fld Z h2 a3 "com/example/linkfield/linkfield/core/HttpCheck" "status" "Ljava/lang/String;" .null := D9 (Or.inr (hw _ (List.mem_of_getElem? (i := 70) rfl))) (ty := (.object "java/lang/String")) (by decide)
  have f19 : Fld Z h2 a3 "com/example/linkfield/linkfield/core/HttpCheck" "location" "Ljava/lang/String;" .null := D9 (Or.inr (hw _ (List.mem_of_getElem? (i := 72) rfl))) (ty := (.object "java/lang/String")) (by decide)
  refine own_dup (q := 4) A6 d8_3 rfl ?_
  refine own_aloadN (q := 5) (v := (.ref sx)) A6 d8_4 rfl rfl ?_
  refine own_ldcR (q := 7) (n := 36) (z := 9) (vs := [(.int (114 : Int32)), (.int (101 : Int32)), (.int (100 : Int32)), (.int (105 : Int32)), (.int (114 : Int32)), (.int (101 : Int32)), (.int (99 : Int32)), (.int (116 : Int32)), (.int (115 : Int32))]) A6 (hw _ (List.mem_of_getElem? (i := 41) rfl)) (own_satoms hw) (by decide) ⟨by decide +kernel, by decide +kernel⟩ (by decide) (by decide) d8_5 (by decide) (by decide) (by decide) (by decide) ?_
  intro a20 b21 k22 T23 h24 A25 E26 X27 F28 F29 V30 N31
  have K32 : Keep h0 h24 [] := K12.ext E26
  have f33 : Exa Z h24 sx "java/lang/String" := f13.ext E26
  have f34 : Fld Z h24 sx "java/lang/String" "value" "[B" (.ref t) := f14.ext E26
  have f35 : Fld Z h24 sx "java/lang/String" "coder" "B" (.int (0 : Int32)) := f15.ext E26
  have f36 : Arv Z h24 t kt .byte N vs (.int 0) := f16.ext E26
  have f37 : Exa Z h24 a3 "com/example/linkfield/linkfield/core/HttpCheck" := X8.ext E26
  have f38 : Fld Z h24 a3 "com/example/linkfield/linkfield/core/HttpCheck" "verdict" "Lcom/example/linkfield/linkfield/core/Verdict;" .null := f17.ext E26
  have f39 : Fld Z h24 a3 "com/example/linkfield/linkfield/core/HttpCheck" "status" "Ljava/lang/String;" .null := f18.ext E26
  have f40 : Fld Z h24 a3 "com/example/linkfield/linkfield/core/HttpCheck" "location" "Ljava/lang/String;" .null := f19.ext E26
  refine own_virtual (q := 10) (W := 2) (argsL := [(.ref a20)]) (rest := [(.ref a3), (.ref a3)]) A25 (hw _ (List.mem_of_getElem? (i := 44) rfl)) (hw _ (List.mem_of_getElem? (i := 45) rfl)) (hw _ (List.mem_of_getElem? (i := 47) rfl)) (hw _ (List.mem_of_getElem? (i := 46) rfl)) (by decide) (own_payEq (kI := 4) (own_wEq hw) (hw _ (List.mem_of_getElem? (i := 7) rfl)) A25.old f33 f34 f35 f36 hcod hb l2 X27 F29 F28 V30 (own_cod [(114 : Int32), (101 : Int32), (100 : Int32), (105 : Int32), (114 : Int32), (101 : Int32), (99 : Int32), (116 : Int32), (115 : Int32)] (n := 9) rfl (by decide) rfl rfl) (by decide) (by decide) SC hz (by decide) (by decide)) (fun _ z => nomatch z) (Nat.le_of_eq rfl) f33 own_pd10 rfl rfl rfl d8_7 (by decide) (by decide) ?_
  rintro v42 T43 h44 A45 ⟨⟨rfl, q41⟩ | ⟨rfl, q41⟩, rfl⟩
  rotate_left
  · exact absurd hcs q41
  show own_Run p e below Q m T43 10 #[.val (.ref sx)] [(.int (1 : Int32)), (.ref a3), (.ref a3)]
  refine own_ifcF (q := 13) A45 d8_10 (show ¬ (1 : Int32) = (0 : Int32) from by decide) ?_
  refine own_getS (q := 16) A45 (hw _ (List.mem_of_getElem? (i := 99) rfl)) Via.refl SD d8_13 ?_
  intro T46 A47
  refine own_goto (q := 22) A47 d8_16 ?_
  refine own_aloadN (q := 23) (v := (.ref sx)) A47 d8_22 rfl rfl ?_
  refine own_ldcR (q := 25) (n := 0) (z := 0) (vs := []) A47 (hw _ (List.mem_of_getElem? (i := 57) rfl)) (own_satoms hw) (by decide) ⟨by decide +kernel, by decide +kernel⟩ (by decide) (by decide) d8_23 (by decide) (by decide) (by decide) (by decide) ?_
  intro a48 b49 k50 T51 h52 A53 E54 X55 F56 F57 V58 N59
  have K60 : Keep h0 h52 [] := K32.ext E54
  have f61 : Exa Z h52 sx "java/lang/String" := f33.ext E54
  have f62 : Fld Z h52 sx "java/lang/String" "value" "[B" (.ref t) := f34.ext E54
  have f63 : Fld Z h52 sx "java/lang/String" "coder" "B" (.int (0 : Int32)) := f35.ext E54
  have f64 : Arv Z h52 t kt .byte N vs (.int 0) := f36.ext E54
  have f65 : Exa Z h52 a3 "com/example/linkfield/linkfield/core/HttpCheck" := f37.ext E54
  have f66 : Fld Z h52 a3 "com/example/linkfield/linkfield/core/HttpCheck" "verdict" "Lcom/example/linkfield/linkfield/core/Verdict;" .null := f38.ext E54
  have f67 : Fld Z h52 a3 "com/example/linkfield/linkfield/core/HttpCheck" "status" "Ljava/lang/String;" .null := f39.ext E54
  have f68 : Fld Z h52 a3 "com/example/linkfield/linkfield/core/HttpCheck" "location" "Ljava/lang/String;" .null := f40.ext E54
  refine own_specialW (q := 28) (W := 1) (argsL := [(.ref dA), (.ref sx), (.ref a48)]) (rest := [(.ref a3)]) A53 rfl (hw _ (List.mem_of_getElem? (i := 58) rfl)) (hw _ (List.mem_of_getElem? (i := 59) rfl)) (hw _ (List.mem_of_getElem? (i := 60) rfl)) (by decide) (own_payW (rm_ctor l Z a0 hw zc dA uA a3 dA sx a48 h52 n0 A53.old hEL SC hz SD SU f65 f66 f67 f68 g5) (hw _ (List.mem_of_getElem? (i := 60) rfl)) (hw _ (List.mem_of_getElem? (i := 37) rfl)) (by decide) (by decide)) (by simp) (Nat.le_of_eq rfl) own_pd4 rfl rfl rfl d8_25 (by decide) (by decide) ?_
  rintro v74 T75 h76 A77 ⟨rfl, K69, X70, F71, F72, F73⟩
  show own_Run p e below Q m T75 28 #[.val (.ref sx)] [(.ref a3)]
  have f78 : Exa Z h76 a48 "java/lang/String" := X55.keep K69
  have f79 : Fld Z h76 a48 "java/lang/String" "coder" "B" (.int (0 : Int32)) := F56.keep K69 (ninS (Ne.symm (N59 a3 (by simp)).1) nin0)
  have f80 : Fld Z h76 a48 "java/lang/String" "value" "[B" (.ref b49) := F57.keep K69 (ninS (Ne.symm (N59 a3 (by simp)).1) nin0)
  have f81 : Arv Z h76 b49 k50 .byte (0 : Int32) [] (.int 0) := V58.keep K69 (ninS (Ne.symm (N59 a3 (by simp)).2) nin0)
  have K82 : Keep h0 h76 [] := K60.trans K69 (allS (Or.inr (Nat.le_trans (Keep.refl h0 []).1 (Nat.le_of_eq g4))) all0)
  exact own_retA A77 hQ rfl rfl rfl d8_28 ⟨a3, a48, b49, k50, rfl, K82, X70, F71, F72, F73, f78, f79, f80, f81⟩
set_option maxRecDepth 65536 in
set_option maxHeartbeats 40000000 in
theorem rm_una0 (l : Launch) (Z : State) (a0 : Array Value) (hw : ∀ d ∈ tables_1, d.before a0 Z = true) (zc : Int32) (dA uA : Addr) (sx t : Addr) (kt : ClassId) (cs : List Int32) (N : Int32) (vs : List Value) (h0 : Heap) (n0 : Nat) (O0 : Old Z n0 h0) (hEL : EW Z a0 consts_1) (SC : Sta Z Z.heap "java/lang/String" "COMPACT_STRINGS" "Z" (.int zc)) (hz : ¬ zc = 0) (SD : Sta Z Z.heap "com/example/linkfield/linkfield/core/Verdict" "DEAD" "Lcom/example/linkfield/linkfield/core/Verdict;" (.ref dA)) (SU : Sta Z Z.heap "com/example/linkfield/linkfield/core/Verdict" "UNREACHABLE" "Lcom/example/linkfield/linkfield/core/Verdict;" (.ref uA)) (Ex : Exa Z h0 sx "java/lang/String") (Vx : Fld Z h0 sx "java/lang/String" "value" "[B" (.ref t)) (Cx : Fld Z h0 sx "java/lang/String" "coder" "B" (.int 0)) (Kx : Arv Z h0 t kt .byte N vs (.int 0)) (hcod : StrChars.Road.CodA cs 0 N vs) (hb : ∀ c ∈ cs, ¬ c < 0 ∧ ¬ (65535 : Int32) < c) (l2 : cs.length ≤ 4000) (hcs : ¬ cs = [(114 : Int32), (101 : Int32), (100 : Int32), (105 : Int32), (114 : Int32), (101 : Int32), (99 : Int32), (116 : Int32), (115 : Int32)]) :
    own_Met true l Z n0 consts_1 [] (⟨"com/example/linkfield/linkfield/core/HttpCheck", "unanswered", "(Ljava/lang/String;)Lcom/example/linkfield/linkfield/core/HttpCheck;"⟩ : MethodName) prog_25_method_2_code 1 (some (.object "com/example/linkfield/linkfield/core/HttpCheck")) [] ({ frames := 3, cells := 5, slots := 47, locals := 40 } : Room) #[(.ref sx)] h0 (fun v h => ∃ (a lc tl : Addr) (kl : ClassId), v = some (.ref a) ∧ Keep h0 h [] ∧ Exa Z h a "com/example/linkfield/linkfield/core/HttpCheck" ∧ Fld Z h a "com/example/linkfield/linkfield/core/HttpCheck" "verdict" "Lcom/example/linkfield/linkfield/core/Verdict;" (.ref uA) ∧ Fld Z h a "com/example/linkfield/linkfield/core/HttpCheck" "status" "Ljava/lang/String;" (.ref sx) ∧ Fld Z h a "com/example/linkfield/linkfield/core/HttpCheck" "location" "Ljava/lang/String;" (.ref lc) ∧ Exa Z h lc "java/lang/String" ∧ Fld Z h lc "java/lang/String" "coder" "B" (.int 0) ∧ Fld Z h lc "java/lang/String" "value" "[B" (.ref tl) ∧ Arv Z h tl kl .byte 0 [] (.int 0)) := by
  refine own_enter (a0 := a0) (own := "com/example/linkfield/linkfield/core/HttpCheck") (nm := "unanswered") (Ls := #[.val (.ref sx)]) own_pn3 O0 hEL (fun m => by first | (simp [entryFrame, mkF, argsToLocals, Value.category, maxLocals]; done) | rfl) ?_
  intro p e s m args below meth cde T0 Q hQ A0
  show own_Run p e below Q m T0 0 #[.val (.ref sx)] []
  refine own_newO (q := 3) A0 (hw _ (List.mem_of_getElem? (i := 39) rfl)) (hw _ (List.mem_of_getElem? (i := 40) rfl)) (hw _ (List.mem_of_getElem? (i := 37) rfl)) d8_0 (by decide) (by decide) ?_
  intro T1 h2 a3 g4 g5 A6 E7 X8 D9
  have z10 : sx ≠ a3 := Nat.ne_of_lt (Nat.lt_of_lt_of_le Ex.lt (Nat.le_of_eq g4))
  have z11 : t ≠ a3 := Nat.ne_of_lt (Nat.lt_of_lt_of_le Kx.lt (Nat.le_of_eq g4))
  have K12 : Keep h0 h2 [] := (Keep.refl h0 []).ext E7
  have f13 : Exa Z h2 sx "java/lang/String" := Ex.ext E7
  have f14 : Fld Z h2 sx "java/lang/String" "value" "[B" (.ref t) := Vx.ext E7
  have f15 : Fld Z h2 sx "java/lang/String" "coder" "B" (.int (0 : Int32)) := Cx.ext E7
  have f16 : Arv Z h2 t kt .byte N vs (.int 0) := Kx.ext E7
  have f17 : Fld Z h2 a3 "com/example/linkfield/linkfield/core/HttpCheck" "verdict" "Lcom/example/linkfield/linkfield/core/Verdict;" .null := D9 (Or.inr (hw _ (List.mem_of_getElem? (i := 68) rfl))) (ty := (.object "com/example/linkfield/linkfield/core/Verdict")) (by decide)
  have f18 : Fld Z h2 a3 "com/example/linkfield/linkfield/core/HttpCheck" "status" "Ljava/lang/String;" .null := D9 (Or.inr (hw _ (List.mem_of_getElem? (i := 70) rfl))) (ty := (.object "java/lang/String")) (by decide)
  have f19 : Fld Z h2 a3 "com/example/linkfield/linkfield/core/HttpCheck" "location" "Ljava/lang/String;" .null := D9 (Or.inr (hw _ (List.mem_of_getElem? (i := 72) rfl))) (ty := (.object "java/lang/String")) (by decide)
  refine own_dup (q := 4) A6 d8_3 rfl ?_
  refine own_aloadN (q := 5) (v := (.ref sx)) A6 d8_4 rfl rfl ?_
  refine own_ldcR (q := 7) (n := 36) (z := 9) (vs := [(.int (114 : Int32)), (.int (101 : Int32)), (.int (100 : Int32)), (.int (105 : Int32)), (.int (114 : Int32)), (.int (101 : Int32)), (.int (99 : Int32)), (.int (116 : Int32)), (.int (115 : Int32))]) A6 (hw _ (List.mem_of_getElem? (i := 41) rfl)) (own_satoms hw) (by decide) ⟨by decide +kernel, by decide +kernel⟩ (by decide) (by decide) d8_5 (by decide) (by decide) (by decide) (by decide) ?_
  intro a20 b21 k22 T23 h24 A25 E26 X27 F28 F29 V30 N31
  have K32 : Keep h0 h24 [] := K12.ext E26
  have f33 : Exa Z h24 sx "java/lang/String" := f13.ext E26
  have f34 : Fld Z h24 sx "java/lang/String" "value" "[B" (.ref t) := f14.ext E26
  have f35 : Fld Z h24 sx "java/lang/String" "coder" "B" (.int (0 : Int32)) := f15.ext E26
  have f36 : Arv Z h24 t kt .byte N vs (.int 0) := f16.ext E26
  have f37 : Exa Z h24 a3 "com/example/linkfield/linkfield/core/HttpCheck" := X8.ext E26
  have f38 : Fld Z h24 a3 "com/example/linkfield/linkfield/core/HttpCheck" "verdict" "Lcom/example/linkfield/linkfield/core/Verdict;" .null := f17.ext E26
  have f39 : Fld Z h24 a3 "com/example/linkfield/linkfield/core/HttpCheck" "status" "Ljava/lang/String;" .null := f18.ext E26
  have f40 : Fld Z h24 a3 "com/example/linkfield/linkfield/core/HttpCheck" "location" "Ljava/lang/String;" .null := f19.ext E26
  refine own_virtual (q := 10) (W := 2) (argsL := [(.ref a20)]) (rest := [(.ref a3), (.ref a3)]) A25 (hw _ (List.mem_of_getElem? (i := 44) rfl)) (hw _ (List.mem_of_getElem? (i := 45) rfl)) (hw _ (List.mem_of_getElem? (i := 47) rfl)) (hw _ (List.mem_of_getElem? (i := 46) rfl)) (by decide) (own_payEq (kI := 4) (own_wEq hw) (hw _ (List.mem_of_getElem? (i := 7) rfl)) A25.old f33 f34 f35 f36 hcod hb l2 X27 F29 F28 V30 (own_cod [(114 : Int32), (101 : Int32), (100 : Int32), (105 : Int32), (114 : Int32), (101 : Int32), (99 : Int32), (116 : Int32), (115 : Int32)] (n := 9) rfl (by decide) rfl rfl) (by decide) (by decide) SC hz (by decide) (by decide)) (fun _ z => nomatch z) (Nat.le_of_eq rfl) f33 own_pd10 rfl rfl rfl d8_7 (by decide) (by decide) ?_
  rintro v42 T43 h44 A45 ⟨⟨rfl, q41⟩ | ⟨rfl, q41⟩, rfl⟩
  · exact absurd q41 hcs
  show own_Run p e below Q m T43 10 #[.val (.ref sx)] [(.int (0 : Int32)), (.ref a3), (.ref a3)]
  refine own_ifcT (q := 19) A45 d8_10 (show (0 : Int32) = (0 : Int32) from rfl) ?_
  refine own_getS (q := 22) A45 (hw _ (List.mem_of_getElem? (i := 54) rfl)) Via.refl SU d8_19 ?_
  intro T46 A47
  refine own_aloadN (q := 23) (v := (.ref sx)) A47 d8_22 rfl rfl ?_
  refine own_ldcR (q := 25) (n := 0) (z := 0) (vs := []) A47 (hw _ (List.mem_of_getElem? (i := 57) rfl)) (own_satoms hw) (by decide) ⟨by decide +kernel, by decide +kernel⟩ (by decide) (by decide) d8_23 (by decide) (by decide) (by decide) (by decide) ?_
  intro a48 b49 k50 T51 h52 A53 E54 X55 F56 F57 V58 N59
  have K60 : Keep h0 h52 [] := K32.ext E54
  have f61 : Exa Z h52 sx "java/lang/String" := f33.ext E54
  have f62 : Fld Z h52 sx "java/lang/String" "value" "[B" (.ref t) := f34.ext E54
  have f63 : Fld Z h52 sx "java/lang/String" "coder" "B" (.int (0 : Int32)) := f35.ext E54
  have f64 : Arv Z h52 t kt .byte N vs (.int 0) := f36.ext E54
  have f65 : Exa Z h52 a3 "com/example/linkfield/linkfield/core/HttpCheck" := f37.ext E54
  have f66 : Fld Z h52 a3 "com/example/linkfield/linkfield/core/HttpCheck" "verdict" "Lcom/example/linkfield/linkfield/core/Verdict;" .null := f38.ext E54
  have f67 : Fld Z h52 a3 "com/example/linkfield/linkfield/core/HttpCheck" "status" "Ljava/lang/String;" .null := f39.ext E54
  have f68 : Fld Z h52 a3 "com/example/linkfield/linkfield/core/HttpCheck" "location" "Ljava/lang/String;" .null := f40.ext E54
  refine own_specialW (q := 28) (W := 1) (argsL := [(.ref uA), (.ref sx), (.ref a48)]) (rest := [(.ref a3)]) A53 rfl (hw _ (List.mem_of_getElem? (i := 58) rfl)) (hw _ (List.mem_of_getElem? (i := 59) rfl)) (hw _ (List.mem_of_getElem? (i := 60) rfl)) (by decide) (own_payW (rm_ctor l Z a0 hw zc dA uA a3 uA sx a48 h52 n0 A53.old hEL SC hz SD SU f65 f66 f67 f68 g5) (hw _ (List.mem_of_getElem? (i := 60) rfl)) (hw _ (List.mem_of_getElem? (i := 37) rfl)) (by decide) (by decide)) (by simp) (Nat.le_of_eq rfl) own_pd4 rfl rfl rfl d8_25 (by decide) (by decide) ?_
  rintro v74 T75 h76 A77 ⟨rfl, K69, X70, F71, F72, F73⟩
  show own_Run p e below Q m T75 28 #[.val (.ref sx)] [(.ref a3)]
  have f78 : Exa Z h76 a48 "java/lang/String" := X55.keep K69
  have f79 : Fld Z h76 a48 "java/lang/String" "coder" "B" (.int (0 : Int32)) := F56.keep K69 (ninS (Ne.symm (N59 a3 (by simp)).1) nin0)
  have f80 : Fld Z h76 a48 "java/lang/String" "value" "[B" (.ref b49) := F57.keep K69 (ninS (Ne.symm (N59 a3 (by simp)).1) nin0)
  have f81 : Arv Z h76 b49 k50 .byte (0 : Int32) [] (.int 0) := V58.keep K69 (ninS (Ne.symm (N59 a3 (by simp)).2) nin0)
  have K82 : Keep h0 h76 [] := K60.trans K69 (allS (Or.inr (Nat.le_trans (Keep.refl h0 []).1 (Nat.le_of_eq g4))) all0)
  exact own_retA A77 hQ rfl rfl rfl d8_28 ⟨a3, a48, b49, k50, rfl, K82, X70, F71, F72, F73, f78, f79, f80, f81⟩
set_option maxRecDepth 65536 in
set_option maxHeartbeats 40000000 in
theorem rm_tail1 (l : Launch) (Z : State) (a0 : Array Value) (hw : ∀ d ∈ tables_1, d.before a0 Z = true) (zc : Int32) (dA uA : Addr)  (sx t : Addr) (kt : ClassId) (cs : List Int32) (N : Int32) (vs : List Value) (h0 : Heap) (n0 : Nat) (hEL : EW Z a0 consts_1) (SC : Sta Z Z.heap "java/lang/String" "COMPACT_STRINGS" "Z" (.int zc)) (hz : ¬ zc = 0) (SD : Sta Z Z.heap "com/example/linkfield/linkfield/core/Verdict" "DEAD" "Lcom/example/linkfield/linkfield/core/Verdict;" (.ref dA)) (SU : Sta Z Z.heap "com/example/linkfield/linkfield/core/Verdict" "UNREACHABLE" "Lcom/example/linkfield/linkfield/core/Verdict;" (.ref uA)) (Ex : Exa Z h0 sx "java/lang/String") (Vx : Fld Z h0 sx "java/lang/String" "value" "[B" (.ref t)) (Cx : Fld Z h0 sx "java/lang/String" "coder" "B" (.int 0)) (Kx : Arv Z h0 t kt .byte N vs (.int 0)) (hcod : StrChars.Road.CodA cs 0 N vs) (hb : ∀ c ∈ cs, ¬ c < 0 ∧ ¬ (65535 : Int32) < c) (l2 : cs.length ≤ 4000) (hcs : cs = [(114 : Int32), (101 : Int32), (100 : Int32), (105 : Int32), (114 : Int32), (101 : Int32), (99 : Int32), (116 : Int32), (115 : Int32)]) {p : Program} {e : Env} {s : State} {m : MethodId} {args : Array Value} {below : List Frame} {meth : Method} {cde : Code} {T0 : State} {sf : List Addr} {Q : Outcome → State → Prop} {u0 u1 u2 u3 u4 u5 u8 u9 u10 : Slot} (h8 : own_S1 u8) (h9 : own_S1 u9) (hQ : Q = own_Q true s room_1 n0 Z consts_1 (fun v _ => v = some (.int 1))) (A0 : own_At true p l e room_1 s m args below meth cde code ret "com/example/linkfield/linkfield/core/HttpCheckUnansweredPinLaw" "law" maxLocals Z n0 a0 consts_1 sf T0 h0 8 64) : own_Run p e below Q m T0 232 #[u0, u1, u2, u3, u4, u5, .val (.ref sx), .val (.int (1 : Int32)), u8, u9, u10] [] := by
  refine own_aload (q := 234) (v := (.ref sx)) A0 at_232 rfl rfl ?_
  refine own_staticW (q := 237) (W := 0) (argsL := [(.ref sx)]) (rest := []) A0 (hw _ (List.mem_of_getElem? (i := 35) rfl)) (hw _ (List.mem_of_getElem? (i := 36) rfl)) (hw _ (List.mem_of_getElem? (i := 37) rfl)) (hw _ (List.mem_of_getElem? (i := 38) rfl)) (by decide) (own_payW (rm_una1 l Z a0 hw zc dA uA sx t kt cs N vs h0 n0 A0.old hEL SC hz SD SU Ex Vx Cx Kx hcod hb l2 hcs) (hw _ (List.mem_of_getElem? (i := 38) rfl)) (hw _ (List.mem_of_getElem? (i := 37) rfl)) (by decide) (by decide)) (fun _ z => nomatch z) (Nat.le_of_eq rfl) own_pd3 rfl rfl rfl at_234 (by decide) (by decide) ?_
  rintro v14 T15 h16 A17 ⟨a1, b2, t3, k4, rfl, K5, X6, F7, F8, F9, X10, C11, V12, K13⟩
  show own_Run p e below Q m T15 237 #[u0, u1, u2, u3, u4, u5, .val (.ref sx), .val (.int (1 : Int32)), u8, u9, u10] [(.ref a1)]
  have f18 : Exa Z h16 sx "java/lang/String" := Ex.keep K5
  have f19 : Fld Z h16 sx "java/lang/String" "value" "[B" (.ref t) := Vx.keep K5 nin0
  have f20 : Fld Z h16 sx "java/lang/String" "coder" "B" (.int (0 : Int32)) := Cx.keep K5 nin0
  have f21 : Arv Z h16 t kt .byte N vs (.int 0) := Kx.keep K5 nin0
  refine own_astore (q := 239) (L' := #[u0, u1, u2, u3, u4, u5, .val (.ref sx), .val (.int (1 : Int32)), .val (.ref a1), u9, u10]) A17 at_237 rfl (own_st8 h8) ?_
  refine own_iload (q := 241) (v := (1 : Int32)) A17 at_239 rfl ?_
  refine own_ifcF (q := 244) A17 at_241 (show ¬ (1 : Int32) = (0 : Int32) from by decide) ?_
  refine own_getS (q := 247) A17 (hw _ (List.mem_of_getElem? (i := 101) rfl)) Via.refl SD at_244 ?_
  intro T22 A23
  refine own_goto (q := 253) A23 at_247 ?_
  refine own_astore (q := 255) (L' := #[u0, u1, u2, u3, u4, u5, .val (.ref sx), .val (.int (1 : Int32)), .val (.ref a1), .val (.ref dA), u10]) A23 at_253 rfl (own_st9 h9) ?_
  refine own_aload (q := 257) (v := (.ref a1)) A23 at_255 rfl rfl ?_
  refine own_virtualW (q := 260) (W := 0) (argsL := []) (rest := []) A23 (hw _ (List.mem_of_getElem? (i := 74) rfl)) (hw _ (List.mem_of_getElem? (i := 75) rfl)) (hw _ (List.mem_of_getElem? (i := 77) rfl)) (hw _ (List.mem_of_getElem? (i := 76) rfl)) (by decide) (own_payW (rm_ver l Z a0 hw zc dA uA a1 dA h16 n0 A23.old hEL SC hz SD SU F7) (hw _ (List.mem_of_getElem? (i := 78) rfl)) (hw _ (List.mem_of_getElem? (i := 37) rfl)) (by decide) (by decide)) (fun _ z => nomatch z) (Nat.le_of_eq rfl) X6 own_pd6 rfl rfl rfl at_257 (by decide) (by decide) ?_
  rintro v24 T25 h26 A27 ⟨rfl, rfl⟩
  show own_Run p e below Q m T25 260 #[u0, u1, u2, u3, u4, u5, .val (.ref sx), .val (.int (1 : Int32)), .val (.ref a1), .val (.ref dA), u10] [(.ref dA)]
  refine own_aload (q := 262) (v := (.ref dA)) A27 at_260 rfl rfl ?_
  refine own_acmpF (q := 265) A27 at_262 rfl rfl (XT.aa_ne_f rfl) ?_
  refine own_aload (q := 267) (v := (.ref sx)) A27 at_265 rfl rfl ?_
  refine own_aload (q := 269) (v := (.ref a1)) A27 at_267 rfl rfl ?_
  refine own_virtualW (q := 272) (W := 1) (argsL := []) (rest := [(.ref sx)]) A27 (hw _ (List.mem_of_getElem? (i := 79) rfl)) (hw _ (List.mem_of_getElem? (i := 80) rfl)) (hw _ (List.mem_of_getElem? (i := 82) rfl)) (hw _ (List.mem_of_getElem? (i := 81) rfl)) (by decide) (own_payW (rm_sta l Z a0 hw zc dA uA a1 sx h16 n0 A27.old hEL SC hz SD SU F8) (hw _ (List.mem_of_getElem? (i := 83) rfl)) (hw _ (List.mem_of_getElem? (i := 37) rfl)) (by decide) (by decide)) (fun _ z => nomatch z) (Nat.le_of_eq rfl) X6 own_pd7 rfl rfl rfl at_269 (by decide) (by decide) ?_
  rintro v28 T29 h30 A31 ⟨rfl, rfl⟩
  show own_Run p e below Q m T29 272 #[u0, u1, u2, u3, u4, u5, .val (.ref sx), .val (.int (1 : Int32)), .val (.ref a1), .val (.ref dA), u10] [(.ref sx), (.ref sx)]
  refine own_virtual (q := 275) (W := 0) (argsL := [(.ref sx)]) (rest := []) A31 (hw _ (List.mem_of_getElem? (i := 84) rfl)) (hw _ (List.mem_of_getElem? (i := 45) rfl)) (hw _ (List.mem_of_getElem? (i := 47) rfl)) (hw _ (List.mem_of_getElem? (i := 46) rfl)) (by decide) (own_payEq (kI := 4) (own_wEq hw) (hw _ (List.mem_of_getElem? (i := 7) rfl)) A31.old f18 f19 f20 f21 hcod hb l2 f18 f19 f20 f21 hcod hb l2 SC hz (by decide) (by decide)) (fun _ z => nomatch z) (Nat.le_of_eq rfl) f18 own_pd10 rfl rfl rfl at_272 (by decide) (by decide) ?_
  rintro v33 T34 h35 A36 ⟨⟨rfl, q32⟩ | ⟨rfl, q32⟩, rfl⟩
  rotate_left
  · exact absurd rfl q32
  show own_Run p e below Q m T34 275 #[u0, u1, u2, u3, u4, u5, .val (.ref sx), .val (.int (1 : Int32)), .val (.ref a1), .val (.ref dA), u10] [(.int (1 : Int32))]
  refine own_ifcF (q := 278) A36 at_275 (show ¬ (1 : Int32) = (0 : Int32) from by decide) ?_
  refine own_aload (q := 280) (v := (.ref a1)) A36 at_278 rfl rfl ?_
  refine own_virtualW (q := 283) (W := 0) (argsL := []) (rest := []) A36 (hw _ (List.mem_of_getElem? (i := 85) rfl)) (hw _ (List.mem_of_getElem? (i := 86) rfl)) (hw _ (List.mem_of_getElem? (i := 88) rfl)) (hw _ (List.mem_of_getElem? (i := 87) rfl)) (by decide) (own_payW (rm_loc l Z a0 hw zc dA uA a1 b2 h16 n0 A36.old hEL SC hz SD SU F9) (hw _ (List.mem_of_getElem? (i := 89) rfl)) (hw _ (List.mem_of_getElem? (i := 37) rfl)) (by decide) (by decide)) (fun _ z => nomatch z) (Nat.le_of_eq rfl) X6 own_pd7 rfl rfl rfl at_280 (by decide) (by decide) ?_
  rintro v37 T38 h39 A40 ⟨rfl, rfl⟩
  show own_Run p e below Q m T38 283 #[u0, u1, u2, u3, u4, u5, .val (.ref sx), .val (.int (1 : Int32)), .val (.ref a1), .val (.ref dA), u10] [(.ref b2)]
  refine own_ifnullF (q := 286) A40 at_283 ?_
  refine own_aload (q := 288) (v := (.ref a1)) A40 at_286 rfl rfl ?_
  refine own_virtualW (q := 291) (W := 0) (argsL := []) (rest := []) A40 (hw _ (List.mem_of_getElem? (i := 85) rfl)) (hw _ (List.mem_of_getElem? (i := 86) rfl)) (hw _ (List.mem_of_getElem? (i := 88) rfl)) (hw _ (List.mem_of_getElem? (i := 87) rfl)) (by decide) (own_payW (rm_loc l Z a0 hw zc dA uA a1 b2 h16 n0 A40.old hEL SC hz SD SU F9) (hw _ (List.mem_of_getElem? (i := 89) rfl)) (hw _ (List.mem_of_getElem? (i := 37) rfl)) (by decide) (by decide)) (fun _ z => nomatch z) (Nat.le_of_eq rfl) X6 own_pd7 rfl rfl rfl at_288 (by decide) (by decide) ?_
  rintro v41 T42 h43 A44 ⟨rfl, rfl⟩
  show own_Run p e below Q m T42 291 #[u0, u1, u2, u3, u4, u5, .val (.ref sx), .val (.int (1 : Int32)), .val (.ref a1), .val (.ref dA), u10] [(.ref b2)]
  refine own_virtual (q := 294) (W := 0) (argsL := []) (rest := []) A44 (hw _ (List.mem_of_getElem? (i := 90) rfl)) (hw _ (List.mem_of_getElem? (i := 91) rfl)) (hw _ (List.mem_of_getElem? (i := 93) rfl)) (hw _ (List.mem_of_getElem? (i := 92) rfl)) (by decide) (own_payEmp (cs1 := []) (kI := 4) (own_wEmp hw) (hw _ (List.mem_of_getElem? (i := 7) rfl)) A44.old X10 V12 C11 K13 (own_cod [] (n := 0) rfl (by decide) rfl rfl) (by decide) (by decide) (by decide) (by decide)) (fun _ z => nomatch z) (Nat.le_of_eq rfl) X10 own_pd11 rfl rfl rfl at_291 (by decide) (by decide) ?_
  rintro v45 T46 h47 A48 ⟨rfl, rfl⟩
  show own_Run p e below Q m T46 294 #[u0, u1, u2, u3, u4, u5, .val (.ref sx), .val (.int (1 : Int32)), .val (.ref a1), .val (.ref dA), u10] [(.int (1 : Int32))]
  refine own_ifcF (q := 297) A48 at_294 (show ¬ (1 : Int32) = (0 : Int32) from by decide) ?_
  refine own_iconst (q := 298) A48 (1 : Int32) at_297 rfl ?_
  refine own_goto (q := 302) A48 at_298 ?_
  exact own_retN A48 hQ (t := .boolean) (by simp) at_302 rfl
set_option maxRecDepth 65536 in
set_option maxHeartbeats 40000000 in
theorem rm_tail0 (l : Launch) (Z : State) (a0 : Array Value) (hw : ∀ d ∈ tables_1, d.before a0 Z = true) (zc : Int32) (dA uA : Addr)  (sx t : Addr) (kt : ClassId) (cs : List Int32) (N : Int32) (vs : List Value) (h0 : Heap) (n0 : Nat) (hEL : EW Z a0 consts_1) (SC : Sta Z Z.heap "java/lang/String" "COMPACT_STRINGS" "Z" (.int zc)) (hz : ¬ zc = 0) (SD : Sta Z Z.heap "com/example/linkfield/linkfield/core/Verdict" "DEAD" "Lcom/example/linkfield/linkfield/core/Verdict;" (.ref dA)) (SU : Sta Z Z.heap "com/example/linkfield/linkfield/core/Verdict" "UNREACHABLE" "Lcom/example/linkfield/linkfield/core/Verdict;" (.ref uA)) (Ex : Exa Z h0 sx "java/lang/String") (Vx : Fld Z h0 sx "java/lang/String" "value" "[B" (.ref t)) (Cx : Fld Z h0 sx "java/lang/String" "coder" "B" (.int 0)) (Kx : Arv Z h0 t kt .byte N vs (.int 0)) (hcod : StrChars.Road.CodA cs 0 N vs) (hb : ∀ c ∈ cs, ¬ c < 0 ∧ ¬ (65535 : Int32) < c) (l2 : cs.length ≤ 4000) (hcs : ¬ cs = [(114 : Int32), (101 : Int32), (100 : Int32), (105 : Int32), (114 : Int32), (101 : Int32), (99 : Int32), (116 : Int32), (115 : Int32)]) {p : Program} {e : Env} {s : State} {m : MethodId} {args : Array Value} {below : List Frame} {meth : Method} {cde : Code} {T0 : State} {sf : List Addr} {Q : Outcome → State → Prop} {u0 u1 u2 u3 u4 u5 u8 u9 u10 : Slot} (h8 : own_S1 u8) (h9 : own_S1 u9) (hQ : Q = own_Q true s room_1 n0 Z consts_1 (fun v _ => v = some (.int 1))) (A0 : own_At true p l e room_1 s m args below meth cde code ret "com/example/linkfield/linkfield/core/HttpCheckUnansweredPinLaw" "law" maxLocals Z n0 a0 consts_1 sf T0 h0 8 64) : own_Run p e below Q m T0 232 #[u0, u1, u2, u3, u4, u5, .val (.ref sx), .val (.int (0 : Int32)), u8, u9, u10] [] := by
  refine own_aload (q := 234) (v := (.ref sx)) A0 at_232 rfl rfl ?_
  refine own_staticW (q := 237) (W := 0) (argsL := [(.ref sx)]) (rest := []) A0 (hw _ (List.mem_of_getElem? (i := 35) rfl)) (hw _ (List.mem_of_getElem? (i := 36) rfl)) (hw _ (List.mem_of_getElem? (i := 37) rfl)) (hw _ (List.mem_of_getElem? (i := 38) rfl)) (by decide) (own_payW (rm_una0 l Z a0 hw zc dA uA sx t kt cs N vs h0 n0 A0.old hEL SC hz SD SU Ex Vx Cx Kx hcod hb l2 hcs) (hw _ (List.mem_of_getElem? (i := 38) rfl)) (hw _ (List.mem_of_getElem? (i := 37) rfl)) (by decide) (by decide)) (fun _ z => nomatch z) (Nat.le_of_eq rfl) own_pd3 rfl rfl rfl at_234 (by decide) (by decide) ?_
  rintro v14 T15 h16 A17 ⟨a1, b2, t3, k4, rfl, K5, X6, F7, F8, F9, X10, C11, V12, K13⟩
  show own_Run p e below Q m T15 237 #[u0, u1, u2, u3, u4, u5, .val (.ref sx), .val (.int (0 : Int32)), u8, u9, u10] [(.ref a1)]
  have f18 : Exa Z h16 sx "java/lang/String" := Ex.keep K5
  have f19 : Fld Z h16 sx "java/lang/String" "value" "[B" (.ref t) := Vx.keep K5 nin0
  have f20 : Fld Z h16 sx "java/lang/String" "coder" "B" (.int (0 : Int32)) := Cx.keep K5 nin0
  have f21 : Arv Z h16 t kt .byte N vs (.int 0) := Kx.keep K5 nin0
  refine own_astore (q := 239) (L' := #[u0, u1, u2, u3, u4, u5, .val (.ref sx), .val (.int (0 : Int32)), .val (.ref a1), u9, u10]) A17 at_237 rfl (own_st8 h8) ?_
  refine own_iload (q := 241) (v := (0 : Int32)) A17 at_239 rfl ?_
  refine own_ifcT (q := 250) A17 at_241 (show (0 : Int32) = (0 : Int32) from rfl) ?_
  refine own_getS (q := 253) A17 (hw _ (List.mem_of_getElem? (i := 73) rfl)) Via.refl SU at_250 ?_
  intro T22 A23
  refine own_astore (q := 255) (L' := #[u0, u1, u2, u3, u4, u5, .val (.ref sx), .val (.int (0 : Int32)), .val (.ref a1), .val (.ref uA), u10]) A23 at_253 rfl (own_st9 h9) ?_
  refine own_aload (q := 257) (v := (.ref a1)) A23 at_255 rfl rfl ?_
  refine own_virtualW (q := 260) (W := 0) (argsL := []) (rest := []) A23 (hw _ (List.mem_of_getElem? (i := 74) rfl)) (hw _ (List.mem_of_getElem? (i := 75) rfl)) (hw _ (List.mem_of_getElem? (i := 77) rfl)) (hw _ (List.mem_of_getElem? (i := 76) rfl)) (by decide) (own_payW (rm_ver l Z a0 hw zc dA uA a1 uA h16 n0 A23.old hEL SC hz SD SU F7) (hw _ (List.mem_of_getElem? (i := 78) rfl)) (hw _ (List.mem_of_getElem? (i := 37) rfl)) (by decide) (by decide)) (fun _ z => nomatch z) (Nat.le_of_eq rfl) X6 own_pd6 rfl rfl rfl at_257 (by decide) (by decide) ?_
  rintro v24 T25 h26 A27 ⟨rfl, rfl⟩
  show own_Run p e below Q m T25 260 #[u0, u1, u2, u3, u4, u5, .val (.ref sx), .val (.int (0 : Int32)), .val (.ref a1), .val (.ref uA), u10] [(.ref uA)]
  refine own_aload (q := 262) (v := (.ref uA)) A27 at_260 rfl rfl ?_
  refine own_acmpF (q := 265) A27 at_262 rfl rfl (XT.aa_ne_f rfl) ?_
  refine own_aload (q := 267) (v := (.ref sx)) A27 at_265 rfl rfl ?_
  refine own_aload (q := 269) (v := (.ref a1)) A27 at_267 rfl rfl ?_
  refine own_virtualW (q := 272) (W := 1) (argsL := []) (rest := [(.ref sx)]) A27 (hw _ (List.mem_of_getElem? (i := 79) rfl)) (hw _ (List.mem_of_getElem? (i := 80) rfl)) (hw _ (List.mem_of_getElem? (i := 82) rfl)) (hw _ (List.mem_of_getElem? (i := 81) rfl)) (by decide) (own_payW (rm_sta l Z a0 hw zc dA uA a1 sx h16 n0 A27.old hEL SC hz SD SU F8) (hw _ (List.mem_of_getElem? (i := 83) rfl)) (hw _ (List.mem_of_getElem? (i := 37) rfl)) (by decide) (by decide)) (fun _ z => nomatch z) (Nat.le_of_eq rfl) X6 own_pd7 rfl rfl rfl at_269 (by decide) (by decide) ?_
  rintro v28 T29 h30 A31 ⟨rfl, rfl⟩
  show own_Run p e below Q m T29 272 #[u0, u1, u2, u3, u4, u5, .val (.ref sx), .val (.int (0 : Int32)), .val (.ref a1), .val (.ref uA), u10] [(.ref sx), (.ref sx)]
  refine own_virtual (q := 275) (W := 0) (argsL := [(.ref sx)]) (rest := []) A31 (hw _ (List.mem_of_getElem? (i := 84) rfl)) (hw _ (List.mem_of_getElem? (i := 45) rfl)) (hw _ (List.mem_of_getElem? (i := 47) rfl)) (hw _ (List.mem_of_getElem? (i := 46) rfl)) (by decide) (own_payEq (kI := 4) (own_wEq hw) (hw _ (List.mem_of_getElem? (i := 7) rfl)) A31.old f18 f19 f20 f21 hcod hb l2 f18 f19 f20 f21 hcod hb l2 SC hz (by decide) (by decide)) (fun _ z => nomatch z) (Nat.le_of_eq rfl) f18 own_pd10 rfl rfl rfl at_272 (by decide) (by decide) ?_
  rintro v33 T34 h35 A36 ⟨⟨rfl, q32⟩ | ⟨rfl, q32⟩, rfl⟩
  rotate_left
  · exact absurd rfl q32
  show own_Run p e below Q m T34 275 #[u0, u1, u2, u3, u4, u5, .val (.ref sx), .val (.int (0 : Int32)), .val (.ref a1), .val (.ref uA), u10] [(.int (1 : Int32))]
  refine own_ifcF (q := 278) A36 at_275 (show ¬ (1 : Int32) = (0 : Int32) from by decide) ?_
  refine own_aload (q := 280) (v := (.ref a1)) A36 at_278 rfl rfl ?_
  refine own_virtualW (q := 283) (W := 0) (argsL := []) (rest := []) A36 (hw _ (List.mem_of_getElem? (i := 85) rfl)) (hw _ (List.mem_of_getElem? (i := 86) rfl)) (hw _ (List.mem_of_getElem? (i := 88) rfl)) (hw _ (List.mem_of_getElem? (i := 87) rfl)) (by decide) (own_payW (rm_loc l Z a0 hw zc dA uA a1 b2 h16 n0 A36.old hEL SC hz SD SU F9) (hw _ (List.mem_of_getElem? (i := 89) rfl)) (hw _ (List.mem_of_getElem? (i := 37) rfl)) (by decide) (by decide)) (fun _ z => nomatch z) (Nat.le_of_eq rfl) X6 own_pd7 rfl rfl rfl at_280 (by decide) (by decide) ?_
  rintro v37 T38 h39 A40 ⟨rfl, rfl⟩
  show own_Run p e below Q m T38 283 #[u0, u1, u2, u3, u4, u5, .val (.ref sx), .val (.int (0 : Int32)), .val (.ref a1), .val (.ref uA), u10] [(.ref b2)]
  refine own_ifnullF (q := 286) A40 at_283 ?_
  refine own_aload (q := 288) (v := (.ref a1)) A40 at_286 rfl rfl ?_
  refine own_virtualW (q := 291) (W := 0) (argsL := []) (rest := []) A40 (hw _ (List.mem_of_getElem? (i := 85) rfl)) (hw _ (List.mem_of_getElem? (i := 86) rfl)) (hw _ (List.mem_of_getElem? (i := 88) rfl)) (hw _ (List.mem_of_getElem? (i := 87) rfl)) (by decide) (own_payW (rm_loc l Z a0 hw zc dA uA a1 b2 h16 n0 A40.old hEL SC hz SD SU F9) (hw _ (List.mem_of_getElem? (i := 89) rfl)) (hw _ (List.mem_of_getElem? (i := 37) rfl)) (by decide) (by decide)) (fun _ z => nomatch z) (Nat.le_of_eq rfl) X6 own_pd7 rfl rfl rfl at_288 (by decide) (by decide) ?_
  rintro v41 T42 h43 A44 ⟨rfl, rfl⟩
  show own_Run p e below Q m T42 291 #[u0, u1, u2, u3, u4, u5, .val (.ref sx), .val (.int (0 : Int32)), .val (.ref a1), .val (.ref uA), u10] [(.ref b2)]
  refine own_virtual (q := 294) (W := 0) (argsL := []) (rest := []) A44 (hw _ (List.mem_of_getElem? (i := 90) rfl)) (hw _ (List.mem_of_getElem? (i := 91) rfl)) (hw _ (List.mem_of_getElem? (i := 93) rfl)) (hw _ (List.mem_of_getElem? (i := 92) rfl)) (by decide) (own_payEmp (cs1 := []) (kI := 4) (own_wEmp hw) (hw _ (List.mem_of_getElem? (i := 7) rfl)) A44.old X10 V12 C11 K13 (own_cod [] (n := 0) rfl (by decide) rfl rfl) (by decide) (by decide) (by decide) (by decide)) (fun _ z => nomatch z) (Nat.le_of_eq rfl) X10 own_pd11 rfl rfl rfl at_291 (by decide) (by decide) ?_
  rintro v45 T46 h47 A48 ⟨rfl, rfl⟩
  show own_Run p e below Q m T46 294 #[u0, u1, u2, u3, u4, u5, .val (.ref sx), .val (.int (0 : Int32)), .val (.ref a1), .val (.ref uA), u10] [(.int (1 : Int32))]
  refine own_ifcF (q := 297) A48 at_294 (show ¬ (1 : Int32) = (0 : Int32) from by decide) ?_
  refine own_iconst (q := 298) A48 (1 : Int32) at_297 rfl ?_
  refine own_goto (q := 302) A48 at_298 ?_
  exact own_retN A48 hQ (t := .boolean) (by simp) at_302 rfl
set_option maxRecDepth 65536 in
set_option maxHeartbeats 40000000 in
theorem rm_law (l : Launch) (Z : State) (a0 : Array Value) (hw : ∀ d ∈ tables_1, d.before a0 Z = true) (ws : List Jvm.Cond) (zc : Int32) (dA uA : Addr) (i0 i1 i2 i3 : Int32) (h0 : Heap) (n0 : Nat) (O0 : Old Z n0 h0) (hEL : EW Z a0 consts_1) (SC : Sta Z Z.heap "java/lang/String" "COMPACT_STRINGS" "Z" (.int zc)) (hz : ¬ zc = 0) (SD : Sta Z Z.heap "com/example/linkfield/linkfield/core/Verdict" "DEAD" "Lcom/example/linkfield/linkfield/core/Verdict;" (.ref dA)) (SU : Sta Z Z.heap "com/example/linkfield/linkfield/core/Verdict" "UNREACHABLE" "Lcom/example/linkfield/linkfield/core/Verdict;" (.ref uA))  :
    own_Met true l Z n0 consts_1 [] x code maxLocals ret ws room_1 #[(.int i0), (.int i1), (.int i2), (.int i3)] h0 (fun v _ => v = some (.int 1)) := by
  refine own_enter (a0 := a0) (own := "com/example/linkfield/linkfield/core/HttpCheckUnansweredPinLaw") (nm := "law") (Ls := #[.val (.int i0), .val (.int i1), .val (.int i2), .val (.int i3), .unset, .unset, .unset, .unset, .unset, .unset, .unset]) own_pn0 O0 hEL (fun m => by first | (simp [entryFrame, mkF, argsToLocals, Value.category, maxLocals]; done) | rfl) ?_
  intro p e s m args below meth cde T0 Q hQ A0
  show own_Run p e below Q m T0 0 #[.val (.int i0), .val (.int i1), .val (.int i2), .val (.int i3), .unset, .unset, .unset, .unset, .unset, .unset, .unset] []
  refine own_iloadN (q := 1) (v := i0) A0 at_0 rfl ?_
  refine own_iconst (q := 2) A0 (3 : Int32) at_1 rfl ?_
  refine own_iand (q := 3) A0 at_2 ?_
  refine own_istore (q := 5) (L' := #[.val (.int i0), .val (.int i1), .val (.int i2), .val (.int i3), .val (.int (i0 &&& (3 : Int32))), .unset, .unset, .unset, .unset, .unset, .unset]) A0 at_3 rfl ?_
  refine own_iloadN (q := 6) (v := i2) A0 at_5 rfl ?_
  refine own_sipush (q := 9) A0 (255 : Int32) at_6 rfl ?_
  refine own_iand (q := 10) A0 at_9 ?_
  refine own_i2c (q := 11) A0 at_10 ?_
  obtain ⟨c, ec, hc0, hc1, hnc⟩ := own_byte i2
  rw [ec]
  refine own_istore (q := 13) (L' := #[.val (.int i0), .val (.int i1), .val (.int i2), .val (.int i3), .val (.int (i0 &&& (3 : Int32))), .val (.int c), .unset, .unset, .unset, .unset, .unset]) A0 at_11 rfl ?_
  refine own_iload (q := 15) (v := (i0 &&& (3 : Int32))) A0 at_13 rfl ?_
  refine own_ifc (q := 74) (q' := 18) A0 at_15 ?_ ?_
  · rintro (c1 : ¬ (i0 &&& (3 : Int32)) = (0 : Int32))
    refine own_iload (q := 76) (v := (i0 &&& (3 : Int32))) A0 at_74 rfl ?_
    refine own_iconst (q := 77) A0 (1 : Int32) at_76 rfl ?_
    refine own_icmp (q := 122) (q' := 80) A0 at_77 ?_ ?_
    · rintro (c2 : ¬ (i0 &&& (3 : Int32)) = (1 : Int32))
      refine own_iload (q := 124) (v := (i0 &&& (3 : Int32))) A0 at_122 rfl ?_
      refine own_iconst (q := 125) A0 (2 : Int32) at_124 rfl ?_
      refine own_icmp (q := 158) (q' := 128) A0 at_125 ?_ ?_
      · rintro (c3 : ¬ (i0 &&& (3 : Int32)) = (2 : Int32))
        refine own_iloadN (q := 159) (v := i3) A0 at_158 rfl ?_
        refine own_iconst (q := 160) A0 (3 : Int32) at_159 rfl ?_
        refine own_iand (q := 161) A0 at_160 ?_
        rcases own_and3 i3 with qk | qk | qk | qk
        · rw [qk]
          refine own_istore (q := 163) (L' := #[.val (.int i0), .val (.int i1), .val (.int i2), .val (.int i3), .val (.int (i0 &&& (3 : Int32))), .val (.int c), .unset, .unset, .val (.int (0 : Int32)), .unset, .unset]) A0 at_161 rfl ?_
          refine own_iload (q := 165) (v := (0 : Int32)) A0 at_163 rfl ?_
          refine own_newPv (q := 167) (ty := .char) (dv := .int 0) A0 rfl rfl (hw _ (List.mem_of_getElem? (i := 4) rfl)) at_165 0 (by decide) (by decide) (by decide) (by decide) (by decide) ?_
          intro T4 h5 a6 k7 g8 g9 A10 E11 X12
          have f13 : Arv Z h5 a6 k7 .char (0 : Int32) [] (.int 0) := X12
          refine own_astore (q := 169) (L' := #[.val (.int i0), .val (.int i1), .val (.int i2), .val (.int i3), .val (.int (i0 &&& (3 : Int32))), .val (.int c), .unset, .unset, .val (.int (0 : Int32)), .val (.ref a6), .unset]) A10 at_167 rfl rfl ?_
          refine own_iload (q := 171) (v := (0 : Int32)) A10 at_169 rfl ?_
          refine own_ifcT (q := 180) A10 at_171 (show ¬ (0 : Int32) < (0 : Int32) from by decide) ?_
          refine own_iload (q := 182) (v := (0 : Int32)) A10 at_180 rfl ?_
          refine own_iconst (q := 183) A10 (1 : Int32) at_182 rfl ?_
          refine own_icmpT (q := 199) A10 at_183 (show ¬ (1 : Int32) < (0 : Int32) from by decide) ?_
          refine own_iload (q := 201) (v := (0 : Int32)) A10 at_199 rfl ?_
          refine own_iconst (q := 202) A10 (2 : Int32) at_201 rfl ?_
          refine own_icmpT (q := 218) A10 at_202 (show ¬ (2 : Int32) < (0 : Int32) from by decide) ?_
          refine own_newO (q := 221) A10 (hw _ (List.mem_of_getElem? (i := 6) rfl)) (hw _ (List.mem_of_getElem? (i := 7) rfl)) (hw _ (List.mem_of_getElem? (i := 8) rfl)) at_218 (by decide) (by decide) ?_
          intro T14 h15 a16 g17 g18 A19 E20 X21 D22
          have z23 : a6 ≠ a16 := Nat.ne_of_lt (Nat.lt_of_lt_of_le f13.lt (Nat.le_of_eq g17))
          have f24 : Arv Z h15 a6 k7 .char (0 : Int32) [] (.int 0) := f13.ext E20
          have f25 : Fld Z h15 a16 "java/lang/String" "value" "[B" .null := D22 (Or.inr (hw _ (List.mem_of_getElem? (i := 34) rfl))) (ty := (.array .byte)) (by decide)
          have f26 : Fld Z h15 a16 "java/lang/String" "coder" "B" (.int (0 : Int32)) := D22 (Or.inr (hw _ (List.mem_of_getElem? (i := 32) rfl))) (ty := .byte) (by decide)
          refine own_dup (q := 222) A19 at_221 rfl ?_
          refine own_aload (q := 224) (v := (.ref a6)) A19 at_222 rfl rfl ?_
          refine own_specialW (q := 227) (W := 1) (argsL := [(.ref a6)]) (rest := [(.ref a16)]) A19 rfl (hw _ (List.mem_of_getElem? (i := 9) rfl)) (hw _ (List.mem_of_getElem? (i := 10) rfl)) (hw _ (List.mem_of_getElem? (i := 11) rfl)) (by decide) (own_payW (rm_ini l Z a0 hw zc dA uA a16 a6 k7 h15 n0 A19.old hEL SC hz SD SU X21 f25 f26 f24 g18) (hw _ (List.mem_of_getElem? (i := 11) rfl)) (hw _ (List.mem_of_getElem? (i := 8) rfl)) (by decide) (by decide)) (by simp) (Nat.le_of_eq rfl) own_pd8 rfl rfl rfl at_224 (by decide) (by decide) ?_
          rintro v36 T37 h38 A39 ⟨rfl, K27, t30, k31, E28, C29, V34, K35⟩
          show own_Run p e below Q m T37 227 #[.val (.int i0), .val (.int i1), .val (.int i2), .val (.int i3), .val (.int (i0 &&& (3 : Int32))), .val (.int c), .unset, .unset, .val (.int (0 : Int32)), .val (.ref a6), .unset] [(.ref a16)]
          refine own_astore (q := 229) (L' := #[.val (.int i0), .val (.int i1), .val (.int i2), .val (.int i3), .val (.int (i0 &&& (3 : Int32))), .val (.int c), .val (.ref a16), .unset, .val (.int (0 : Int32)), .val (.ref a6), .unset]) A39 at_227 rfl rfl ?_
          refine own_iconst (q := 230) A39 (0 : Int32) at_229 rfl ?_
          refine own_istore (q := 232) (L' := #[.val (.int i0), .val (.int i1), .val (.int i2), .val (.int i3), .val (.int (i0 &&& (3 : Int32))), .val (.int c), .val (.ref a16), .val (.int (0 : Int32)), .val (.int (0 : Int32)), .val (.ref a6), .unset]) A39 at_230 rfl ?_
          exact rm_tail0 l Z a0 hw zc dA uA a16 t30 k31 [] 0 _ h38 n0 hEL SC hz SD SU E28 V34 C29 K35 (own_cod [] (n := 0) rfl (fun yy hy => ((show ∀ yy ∈ [], ¬ yy < 0 ∧ ¬ (255 : Int32) < yy from (fun _ z => nomatch z)) yy hy).2) rfl rfl) (own_b16 (fun _ z => nomatch z)) (Nat.le_of_ble_eq_true rfl) (fun q => absurd (show (0 : Nat) = 9 from congrArg List.length q) (by decide)) (Or.inr (Or.inl ⟨_, rfl⟩)) (Or.inr (Or.inr ⟨_, rfl⟩)) hQ (A39.up (by decide) (by decide))
        · rw [qk]
          refine own_istore (q := 163) (L' := #[.val (.int i0), .val (.int i1), .val (.int i2), .val (.int i3), .val (.int (i0 &&& (3 : Int32))), .val (.int c), .unset, .unset, .val (.int (1 : Int32)), .unset, .unset]) A0 at_161 rfl ?_
          refine own_iload (q := 165) (v := (1 : Int32)) A0 at_163 rfl ?_
          refine own_newPv (q := 167) (ty := .char) (dv := .int 0) A0 rfl rfl (hw _ (List.mem_of_getElem? (i := 4) rfl)) at_165 1 (by decide) (by decide) (by decide) (by decide) (by decide) ?_
          intro T40 h41 a42 k43 g44 g45 A46 E47 X48
          have f49 : Arv Z h41 a42 k43 .char (1 : Int32) [(.int (0 : Int32))] (.int 0) := X48
          refine own_astore (q := 169) (L' := #[.val (.int i0), .val (.int i1), .val (.int i2), .val (.int i3), .val (.int (i0 &&& (3 : Int32))), .val (.int c), .unset, .unset, .val (.int (1 : Int32)), .val (.ref a42), .unset]) A46 at_167 rfl rfl ?_
          refine own_iload (q := 171) (v := (1 : Int32)) A46 at_169 rfl ?_
          refine own_ifcF (q := 174) A46 at_171 (show (0 : Int32) < (1 : Int32) from by decide) ?_
          refine own_aload (q := 176) (v := (.ref a42)) A46 at_174 rfl rfl ?_
          refine own_iconst (q := 177) A46 (0 : Int32) at_176 rfl ?_
          refine own_iload (q := 179) (v := c) A46 at_177 rfl ?_
          refine own_stCv (q := 180) A46 f49 0 (by decide) (by decide) (by decide) (Nat.le_of_ble_eq_true rfl) g45 (Or.inr (Or.inr (Or.inr (by obtain ⟨c, q, _⟩ := f49; exact ⟨c, _, q, by decide⟩)))) at_179 ?_
          intro T50 h51 sl52 A53 W54 X55
          have f56 : Arv Z h51 a42 k43 .char (1 : Int32) [(.int (nar .char c))] (.int 0) := X55
          have f57 : Arv Z h51 a42 k43 .char (1 : Int32) [(.int c)] (.int 0) := by
            have q := f56
            rw [hnc] at q
            exact q
          refine own_iload (q := 182) (v := (1 : Int32)) A53 at_180 rfl ?_
          refine own_iconst (q := 183) A53 (1 : Int32) at_182 rfl ?_
          refine own_icmpT (q := 199) A53 at_183 (show ¬ (1 : Int32) < (1 : Int32) from by decide) ?_
          refine own_iload (q := 201) (v := (1 : Int32)) A53 at_199 rfl ?_
          refine own_iconst (q := 202) A53 (2 : Int32) at_201 rfl ?_
          refine own_icmpT (q := 218) A53 at_202 (show ¬ (2 : Int32) < (1 : Int32) from by decide) ?_
          refine own_newO (q := 221) A53 (hw _ (List.mem_of_getElem? (i := 6) rfl)) (hw _ (List.mem_of_getElem? (i := 7) rfl)) (hw _ (List.mem_of_getElem? (i := 8) rfl)) at_218 (by decide) (by decide) ?_
          intro T58 h59 a60 g61 g62 A63 E64 X65 D66
          have z67 : a42 ≠ a60 := Nat.ne_of_lt (Nat.lt_of_lt_of_le f57.lt (Nat.le_of_eq g61))
          have f68 : Arv Z h59 a42 k43 .char (1 : Int32) [(.int c)] (.int 0) := f57.ext E64
          have f69 : Fld Z h59 a60 "java/lang/String" "value" "[B" .null := D66 (Or.inr (hw _ (List.mem_of_getElem? (i := 34) rfl))) (ty := (.array .byte)) (by decide)
          have f70 : Fld Z h59 a60 "java/lang/String" "coder" "B" (.int (0 : Int32)) := D66 (Or.inr (hw _ (List.mem_of_getElem? (i := 32) rfl))) (ty := .byte) (by decide)
          refine own_dup (q := 222) A63 at_221 rfl ?_
          refine own_aload (q := 224) (v := (.ref a42)) A63 at_222 rfl rfl ?_
          refine own_special (q := 227) (W := 1) (argsL := [(.ref a42)]) (rest := [(.ref a60)]) A63 rfl (hw _ (List.mem_of_getElem? (i := 9) rfl)) (hw _ (List.mem_of_getElem? (i := 10) rfl)) (hw _ (List.mem_of_getElem? (i := 11) rfl)) (by decide) (own_payV (cs := [c]) (bs := _) (n := 1) (N := 1) (kI := 4) (own_wV hw) (hw _ (List.mem_of_getElem? (i := 7) rfl)) A63.old g62 X65 f69 f70 f68 SC hz rfl rfl (by decide) (by decide) (own_fc ⟨hc0, hc1⟩ (fun _ z => nomatch z)) rfl (by decide) (by decide)) (by simp) (Nat.le_of_eq rfl) own_pd8 rfl rfl rfl at_224 (by decide) (by decide) ?_
          rintro v80 T81 h82 A83 ⟨rfl, K71, E72, C73, t74, k75, g76, g77, V78, K79⟩
          show own_Run p e below Q m T81 227 #[.val (.int i0), .val (.int i1), .val (.int i2), .val (.int i3), .val (.int (i0 &&& (3 : Int32))), .val (.int c), .unset, .unset, .val (.int (1 : Int32)), .val (.ref a42), .unset] [(.ref a60)]
          refine own_astore (q := 229) (L' := #[.val (.int i0), .val (.int i1), .val (.int i2), .val (.int i3), .val (.int (i0 &&& (3 : Int32))), .val (.int c), .val (.ref a60), .unset, .val (.int (1 : Int32)), .val (.ref a42), .unset]) A83 at_227 rfl rfl ?_
          refine own_iconst (q := 230) A83 (0 : Int32) at_229 rfl ?_
          refine own_istore (q := 232) (L' := #[.val (.int i0), .val (.int i1), .val (.int i2), .val (.int i3), .val (.int (i0 &&& (3 : Int32))), .val (.int c), .val (.ref a60), .val (.int (0 : Int32)), .val (.int (1 : Int32)), .val (.ref a42), .unset]) A83 at_230 rfl ?_
          exact rm_tail0 l Z a0 hw zc dA uA a60 t74 k75 [c] 1 _ h82 n0 hEL SC hz SD SU E72 V78 C73 K79 (own_cod [c] (n := 1) rfl (fun yy hy => ((show ∀ yy ∈ [c], ¬ yy < 0 ∧ ¬ (255 : Int32) < yy from (own_fc ⟨hc0, hc1⟩ (fun _ z => nomatch z))) yy hy).2) rfl rfl) (own_b16 (own_fc ⟨hc0, hc1⟩ (fun _ z => nomatch z))) (Nat.le_of_ble_eq_true rfl) (fun q => absurd (show (1 : Nat) = 9 from congrArg List.length q) (by decide)) (Or.inr (Or.inl ⟨_, rfl⟩)) (Or.inr (Or.inr ⟨_, rfl⟩)) hQ (A83.up (by decide) (by decide))
        · rw [qk]
          refine own_istore (q := 163) (L' := #[.val (.int i0), .val (.int i1), .val (.int i2), .val (.int i3), .val (.int (i0 &&& (3 : Int32))), .val (.int c), .unset, .unset, .val (.int (2 : Int32)), .unset, .unset]) A0 at_161 rfl ?_
          refine own_iload (q := 165) (v := (2 : Int32)) A0 at_163 rfl ?_
          refine own_newPv (q := 167) (ty := .char) (dv := .int 0) A0 rfl rfl (hw _ (List.mem_of_getElem? (i := 4) rfl)) at_165 2 (by decide) (by decide) (by decide) (by decide) (by decide) ?_
          intro T84 h85 a86 k87 g88 g89 A90 E91 X92
          have f93 : Arv Z h85 a86 k87 .char (2 : Int32) [(.int (0 : Int32)), (.int (0 : Int32))] (.int 0) := X92
          refine own_astore (q := 169) (L' := #[.val (.int i0), .val (.int i1), .val (.int i2), .val (.int i3), .val (.int (i0 &&& (3 : Int32))), .val (.int c), .unset, .unset, .val (.int (2 : Int32)), .val (.ref a86), .unset]) A90 at_167 rfl rfl ?_
          refine own_iload (q := 171) (v := (2 : Int32)) A90 at_169 rfl ?_
          refine own_ifcF (q := 174) A90 at_171 (show (0 : Int32) < (2 : Int32) from by decide) ?_
          refine own_aload (q := 176) (v := (.ref a86)) A90 at_174 rfl rfl ?_
          refine own_iconst (q := 177) A90 (0 : Int32) at_176 rfl ?_
          refine own_iload (q := 179) (v := c) A90 at_177 rfl ?_
          refine own_stCv (q := 180) A90 f93 0 (by decide) (by decide) (by decide) (Nat.le_of_ble_eq_true rfl) g89 (Or.inr (Or.inr (Or.inr (by obtain ⟨c, q, _⟩ := f93; exact ⟨c, _, q, by decide⟩)))) at_179 ?_
          intro T94 h95 sl96 A97 W98 X99
          have f100 : Arv Z h95 a86 k87 .char (2 : Int32) [(.int (nar .char c)), (.int (0 : Int32))] (.int 0) := X99
          have f101 : Arv Z h95 a86 k87 .char (2 : Int32) [(.int c), (.int (0 : Int32))] (.int 0) := by
            have q := f100
            rw [hnc] at q
            exact q
          refine own_iload (q := 182) (v := (2 : Int32)) A97 at_180 rfl ?_
          refine own_iconst (q := 183) A97 (1 : Int32) at_182 rfl ?_
          refine own_icmpF (q := 186) A97 at_183 (show (1 : Int32) < (2 : Int32) from by decide) ?_
          refine own_aload (q := 188) (v := (.ref a86)) A97 at_186 rfl rfl ?_
          refine own_iconst (q := 189) A97 (1 : Int32) at_188 rfl ?_
          refine own_iloadN (q := 190) (v := i2) A97 at_189 rfl ?_
          refine own_bipush (q := 192) A97 (8 : Int32) at_190 rfl ?_
          refine own_iushr (q := 193) A97 at_192 ?_
          refine own_sipush (q := 196) A97 (255 : Int32) at_193 rfl ?_
          refine own_iand (q := 197) A97 at_196 ?_
          refine own_i2c (q := 198) A97 at_197 ?_
          obtain ⟨cc, ecc, hcc0, hcc1, hncc⟩ := own_byte (i2.toUInt32 >>> ((8 : Int32) &&& 31).toUInt32).toInt32
          rw [ecc]
          refine own_stCv (q := 199) A97 f101 1 (by decide) (by decide) (by decide) (Nat.le_of_ble_eq_true rfl) g89 (Or.inr (Or.inr (Or.inr (by obtain ⟨c, q, _⟩ := f101; exact ⟨c, _, q, by decide⟩)))) at_198 ?_
          intro T102 h103 sl104 A105 W106 X107
          have f108 : Arv Z h103 a86 k87 .char (2 : Int32) [(.int c), (.int (nar .char cc))] (.int 0) := X107
          have f109 : Arv Z h103 a86 k87 .char (2 : Int32) [(.int c), (.int cc)] (.int 0) := by
            have q := f108
            rw [hncc] at q
            exact q
          refine own_iload (q := 201) (v := (2 : Int32)) A105 at_199 rfl ?_
          refine own_iconst (q := 202) A105 (2 : Int32) at_201 rfl ?_
          refine own_icmpT (q := 218) A105 at_202 (show ¬ (2 : Int32) < (2 : Int32) from by decide) ?_
          refine own_newO (q := 221) A105 (hw _ (List.mem_of_getElem? (i := 6) rfl)) (hw _ (List.mem_of_getElem? (i := 7) rfl)) (hw _ (List.mem_of_getElem? (i := 8) rfl)) at_218 (by decide) (by decide) ?_
          intro T110 h111 a112 g113 g114 A115 E116 X117 D118
          have z119 : a86 ≠ a112 := Nat.ne_of_lt (Nat.lt_of_lt_of_le f109.lt (Nat.le_of_eq g113))
          have f120 : Arv Z h111 a86 k87 .char (2 : Int32) [(.int c), (.int cc)] (.int 0) := f109.ext E116
          have f121 : Fld Z h111 a112 "java/lang/String" "value" "[B" .null := D118 (Or.inr (hw _ (List.mem_of_getElem? (i := 34) rfl))) (ty := (.array .byte)) (by decide)
          have f122 : Fld Z h111 a112 "java/lang/String" "coder" "B" (.int (0 : Int32)) := D118 (Or.inr (hw _ (List.mem_of_getElem? (i := 32) rfl))) (ty := .byte) (by decide)
          refine own_dup (q := 222) A115 at_221 rfl ?_
          refine own_aload (q := 224) (v := (.ref a86)) A115 at_222 rfl rfl ?_
          refine own_special (q := 227) (W := 1) (argsL := [(.ref a86)]) (rest := [(.ref a112)]) A115 rfl (hw _ (List.mem_of_getElem? (i := 9) rfl)) (hw _ (List.mem_of_getElem? (i := 10) rfl)) (hw _ (List.mem_of_getElem? (i := 11) rfl)) (by decide) (own_payV (cs := [c, cc]) (bs := _) (n := 2) (N := 2) (kI := 4) (own_wV hw) (hw _ (List.mem_of_getElem? (i := 7) rfl)) A115.old g114 X117 f121 f122 f120 SC hz rfl rfl (by decide) (by decide) (own_fc ⟨hc0, hc1⟩ (own_fc ⟨hcc0, hcc1⟩ (fun _ z => nomatch z))) rfl (by decide) (by decide)) (by simp) (Nat.le_of_eq rfl) own_pd8 rfl rfl rfl at_224 (by decide) (by decide) ?_
          rintro v132 T133 h134 A135 ⟨rfl, K123, E124, C125, t126, k127, g128, g129, V130, K131⟩
          show own_Run p e below Q m T133 227 #[.val (.int i0), .val (.int i1), .val (.int i2), .val (.int i3), .val (.int (i0 &&& (3 : Int32))), .val (.int c), .unset, .unset, .val (.int (2 : Int32)), .val (.ref a86), .unset] [(.ref a112)]
          refine own_astore (q := 229) (L' := #[.val (.int i0), .val (.int i1), .val (.int i2), .val (.int i3), .val (.int (i0 &&& (3 : Int32))), .val (.int c), .val (.ref a112), .unset, .val (.int (2 : Int32)), .val (.ref a86), .unset]) A135 at_227 rfl rfl ?_
          refine own_iconst (q := 230) A135 (0 : Int32) at_229 rfl ?_
          refine own_istore (q := 232) (L' := #[.val (.int i0), .val (.int i1), .val (.int i2), .val (.int i3), .val (.int (i0 &&& (3 : Int32))), .val (.int c), .val (.ref a112), .val (.int (0 : Int32)), .val (.int (2 : Int32)), .val (.ref a86), .unset]) A135 at_230 rfl ?_
          exact rm_tail0 l Z a0 hw zc dA uA a112 t126 k127 [c, cc] 2 _ h134 n0 hEL SC hz SD SU E124 V130 C125 K131 (own_cod [c, cc] (n := 2) rfl (fun yy hy => ((show ∀ yy ∈ [c, cc], ¬ yy < 0 ∧ ¬ (255 : Int32) < yy from (own_fc ⟨hc0, hc1⟩ (own_fc ⟨hcc0, hcc1⟩ (fun _ z => nomatch z)))) yy hy).2) rfl rfl) (own_b16 (own_fc ⟨hc0, hc1⟩ (own_fc ⟨hcc0, hcc1⟩ (fun _ z => nomatch z)))) (Nat.le_of_ble_eq_true rfl) (fun q => absurd (show (2 : Nat) = 9 from congrArg List.length q) (by decide)) (Or.inr (Or.inl ⟨_, rfl⟩)) (Or.inr (Or.inr ⟨_, rfl⟩)) hQ (A135.up (by decide) (by decide))
        · rw [qk]
          refine own_istore (q := 163) (L' := #[.val (.int i0), .val (.int i1), .val (.int i2), .val (.int i3), .val (.int (i0 &&& (3 : Int32))), .val (.int c), .unset, .unset, .val (.int (3 : Int32)), .unset, .unset]) A0 at_161 rfl ?_
          refine own_iload (q := 165) (v := (3 : Int32)) A0 at_163 rfl ?_
          refine own_newPv (q := 167) (ty := .char) (dv := .int 0) A0 rfl rfl (hw _ (List.mem_of_getElem? (i := 4) rfl)) at_165 3 (by decide) (by decide) (by decide) (by decide) (by decide) ?_
          intro T136 h137 a138 k139 g140 g141 A142 E143 X144
          have f145 : Arv Z h137 a138 k139 .char (3 : Int32) [(.int (0 : Int32)), (.int (0 : Int32)), (.int (0 : Int32))] (.int 0) := X144
          refine own_astore (q := 169) (L' := #[.val (.int i0), .val (.int i1), .val (.int i2), .val (.int i3), .val (.int (i0 &&& (3 : Int32))), .val (.int c), .unset, .unset, .val (.int (3 : Int32)), .val (.ref a138), .unset]) A142 at_167 rfl rfl ?_
          refine own_iload (q := 171) (v := (3 : Int32)) A142 at_169 rfl ?_
          refine own_ifcF (q := 174) A142 at_171 (show (0 : Int32) < (3 : Int32) from by decide) ?_
          refine own_aload (q := 176) (v := (.ref a138)) A142 at_174 rfl rfl ?_
          refine own_iconst (q := 177) A142 (0 : Int32) at_176 rfl ?_
          refine own_iload (q := 179) (v := c) A142 at_177 rfl ?_
          refine own_stCv (q := 180) A142 f145 0 (by decide) (by decide) (by decide) (Nat.le_of_ble_eq_true rfl) g141 (Or.inr (Or.inr (Or.inr (by obtain ⟨c, q, _⟩ := f145; exact ⟨c, _, q, by decide⟩)))) at_179 ?_
          intro T146 h147 sl148 A149 W150 X151
          have f152 : Arv Z h147 a138 k139 .char (3 : Int32) [(.int (nar .char c)), (.int (0 : Int32)), (.int (0 : Int32))] (.int 0) := X151
          have f153 : Arv Z h147 a138 k139 .char (3 : Int32) [(.int c), (.int (0 : Int32)), (.int (0 : Int32))] (.int 0) := by
            have q := f152
            rw [hnc] at q
            exact q
          refine own_iload (q := 182) (v := (3 : Int32)) A149 at_180 rfl ?_
          refine own_iconst (q := 183) A149 (1 : Int32) at_182 rfl ?_
          refine own_icmpF (q := 186) A149 at_183 (show (1 : Int32) < (3 : Int32) from by decide) ?_
          refine own_aload (q := 188) (v := (.ref a138)) A149 at_186 rfl rfl ?_
          refine own_iconst (q := 189) A149 (1 : Int32) at_188 rfl ?_
          refine own_iloadN (q := 190) (v := i2) A149 at_189 rfl ?_
          refine own_bipush (q := 192) A149 (8 : Int32) at_190 rfl ?_
          refine own_iushr (q := 193) A149 at_192 ?_
          refine own_sipush (q := 196) A149 (255 : Int32) at_193 rfl ?_
          refine own_iand (q := 197) A149 at_196 ?_
          refine own_i2c (q := 198) A149 at_197 ?_
          obtain ⟨cc, ecc, hcc0, hcc1, hncc⟩ := own_byte (i2.toUInt32 >>> ((8 : Int32) &&& 31).toUInt32).toInt32
          rw [ecc]
          refine own_stCv (q := 199) A149 f153 1 (by decide) (by decide) (by decide) (Nat.le_of_ble_eq_true rfl) g141 (Or.inr (Or.inr (Or.inr (by obtain ⟨c, q, _⟩ := f153; exact ⟨c, _, q, by decide⟩)))) at_198 ?_
          intro T154 h155 sl156 A157 W158 X159
          have f160 : Arv Z h155 a138 k139 .char (3 : Int32) [(.int c), (.int (nar .char cc)), (.int (0 : Int32))] (.int 0) := X159
          have f161 : Arv Z h155 a138 k139 .char (3 : Int32) [(.int c), (.int cc), (.int (0 : Int32))] (.int 0) := by
            have q := f160
            rw [hncc] at q
            exact q
          refine own_iload (q := 201) (v := (3 : Int32)) A157 at_199 rfl ?_
          refine own_iconst (q := 202) A157 (2 : Int32) at_201 rfl ?_
          refine own_icmpF (q := 205) A157 at_202 (show (2 : Int32) < (3 : Int32) from by decide) ?_
          refine own_aload (q := 207) (v := (.ref a138)) A157 at_205 rfl rfl ?_
          refine own_iconst (q := 208) A157 (2 : Int32) at_207 rfl ?_
          refine own_iloadN (q := 209) (v := i2) A157 at_208 rfl ?_
          refine own_bipush (q := 211) A157 (16 : Int32) at_209 rfl ?_
          refine own_iushr (q := 212) A157 at_211 ?_
          refine own_sipush (q := 215) A157 (255 : Int32) at_212 rfl ?_
          refine own_iand (q := 216) A157 at_215 ?_
          refine own_i2c (q := 217) A157 at_216 ?_
          obtain ⟨dd, edd, hdd0, hdd1, hndd⟩ := own_byte (i2.toUInt32 >>> ((16 : Int32) &&& 31).toUInt32).toInt32
          rw [edd]
          refine own_stCv (q := 218) A157 f161 2 (by decide) (by decide) (by decide) (Nat.le_of_ble_eq_true rfl) g141 (Or.inr (Or.inr (Or.inr (by obtain ⟨c, q, _⟩ := f161; exact ⟨c, _, q, by decide⟩)))) at_217 ?_
          intro T162 h163 sl164 A165 W166 X167
          have f168 : Arv Z h163 a138 k139 .char (3 : Int32) [(.int c), (.int cc), (.int (nar .char dd))] (.int 0) := X167
          have f169 : Arv Z h163 a138 k139 .char (3 : Int32) [(.int c), (.int cc), (.int dd)] (.int 0) := by
            have q := f168
            rw [hndd] at q
            exact q
          refine own_newO (q := 221) A165 (hw _ (List.mem_of_getElem? (i := 6) rfl)) (hw _ (List.mem_of_getElem? (i := 7) rfl)) (hw _ (List.mem_of_getElem? (i := 8) rfl)) at_218 (by decide) (by decide) ?_
          intro T170 h171 a172 g173 g174 A175 E176 X177 D178
          have z179 : a138 ≠ a172 := Nat.ne_of_lt (Nat.lt_of_lt_of_le f169.lt (Nat.le_of_eq g173))
          have f180 : Arv Z h171 a138 k139 .char (3 : Int32) [(.int c), (.int cc), (.int dd)] (.int 0) := f169.ext E176
          have f181 : Fld Z h171 a172 "java/lang/String" "value" "[B" .null := D178 (Or.inr (hw _ (List.mem_of_getElem? (i := 34) rfl))) (ty := (.array .byte)) (by decide)
          have f182 : Fld Z h171 a172 "java/lang/String" "coder" "B" (.int (0 : Int32)) := D178 (Or.inr (hw _ (List.mem_of_getElem? (i := 32) rfl))) (ty := .byte) (by decide)
          refine own_dup (q := 222) A175 at_221 rfl ?_
          refine own_aload (q := 224) (v := (.ref a138)) A175 at_222 rfl rfl ?_
          refine own_special (q := 227) (W := 1) (argsL := [(.ref a138)]) (rest := [(.ref a172)]) A175 rfl (hw _ (List.mem_of_getElem? (i := 9) rfl)) (hw _ (List.mem_of_getElem? (i := 10) rfl)) (hw _ (List.mem_of_getElem? (i := 11) rfl)) (by decide) (own_payV (cs := [c, cc, dd]) (bs := _) (n := 3) (N := 3) (kI := 4) (own_wV hw) (hw _ (List.mem_of_getElem? (i := 7) rfl)) A175.old g174 X177 f181 f182 f180 SC hz rfl rfl (by decide) (by decide) (own_fc ⟨hc0, hc1⟩ (own_fc ⟨hcc0, hcc1⟩ (own_fc ⟨hdd0, hdd1⟩ (fun _ z => nomatch z)))) rfl (by decide) (by decide)) (by simp) (Nat.le_of_eq rfl) own_pd8 rfl rfl rfl at_224 (by decide) (by decide) ?_
          rintro v192 T193 h194 A195 ⟨rfl, K183, E184, C185, t186, k187, g188, g189, V190, K191⟩
          show own_Run p e below Q m T193 227 #[.val (.int i0), .val (.int i1), .val (.int i2), .val (.int i3), .val (.int (i0 &&& (3 : Int32))), .val (.int c), .unset, .unset, .val (.int (3 : Int32)), .val (.ref a138), .unset] [(.ref a172)]
          refine own_astore (q := 229) (L' := #[.val (.int i0), .val (.int i1), .val (.int i2), .val (.int i3), .val (.int (i0 &&& (3 : Int32))), .val (.int c), .val (.ref a172), .unset, .val (.int (3 : Int32)), .val (.ref a138), .unset]) A195 at_227 rfl rfl ?_
          refine own_iconst (q := 230) A195 (0 : Int32) at_229 rfl ?_
          refine own_istore (q := 232) (L' := #[.val (.int i0), .val (.int i1), .val (.int i2), .val (.int i3), .val (.int (i0 &&& (3 : Int32))), .val (.int c), .val (.ref a172), .val (.int (0 : Int32)), .val (.int (3 : Int32)), .val (.ref a138), .unset]) A195 at_230 rfl ?_
          exact rm_tail0 l Z a0 hw zc dA uA a172 t186 k187 [c, cc, dd] 3 _ h194 n0 hEL SC hz SD SU E184 V190 C185 K191 (own_cod [c, cc, dd] (n := 3) rfl (fun yy hy => ((show ∀ yy ∈ [c, cc, dd], ¬ yy < 0 ∧ ¬ (255 : Int32) < yy from (own_fc ⟨hc0, hc1⟩ (own_fc ⟨hcc0, hcc1⟩ (own_fc ⟨hdd0, hdd1⟩ (fun _ z => nomatch z))))) yy hy).2) rfl rfl) (own_b16 (own_fc ⟨hc0, hc1⟩ (own_fc ⟨hcc0, hcc1⟩ (own_fc ⟨hdd0, hdd1⟩ (fun _ z => nomatch z))))) (Nat.le_of_ble_eq_true rfl) (fun q => absurd (show (3 : Nat) = 9 from congrArg List.length q) (by decide)) (Or.inr (Or.inl ⟨_, rfl⟩)) (Or.inr (Or.inr ⟨_, rfl⟩)) hQ (A195.up (by decide) (by decide))
      · rintro (c3 : (i0 &&& (3 : Int32)) = (2 : Int32))
        refine own_iloadN (q := 129) (v := i1) A0 at_128 rfl ?_
        refine own_bipush (q := 131) A0 (7 : Int32) at_129 rfl ?_
        refine own_iand (q := 132) A0 at_131 ?_
        rcases own_and7 i1 with qk | qk | qk | qk | qk | qk | qk | qk
        · rw [qk]
          refine own_istore (q := 134) (L' := #[.val (.int i0), .val (.int i1), .val (.int i2), .val (.int i3), .val (.int (i0 &&& (3 : Int32))), .val (.int c), .unset, .unset, .val (.int (0 : Int32)), .unset, .unset]) A0 at_132 rfl ?_
          refine own_iload (q := 136) (v := (0 : Int32)) A0 at_134 rfl ?_
          refine own_staticW (q := 139) (W := 0) (argsL := [(.int (0 : Int32))]) (rest := []) A0 (hw _ (List.mem_of_getElem? (i := 95) rfl)) (hw _ (List.mem_of_getElem? (i := 96) rfl)) (hw _ (List.mem_of_getElem? (i := 2) rfl)) (hw _ (List.mem_of_getElem? (i := 97) rfl)) (by decide) (own_payW (rm_con0 l Z a0 hw zc dA uA  h0 n0 A0.old hEL SC hz SD SU ) (hw _ (List.mem_of_getElem? (i := 97) rfl)) (hw _ (List.mem_of_getElem? (i := 2) rfl)) (by decide) (by decide)) (fun _ z => nomatch z) (Nat.le_of_eq rfl) own_pd2 rfl rfl rfl at_136 (by decide) (by decide) ?_
          rintro v204 T205 h206 A207 ⟨b196, t197, k198, rfl, E199, X200, C201, V202, K203⟩
          show own_Run p e below Q m T205 139 #[.val (.int i0), .val (.int i1), .val (.int i2), .val (.int i3), .val (.int (i0 &&& (3 : Int32))), .val (.int c), .unset, .unset, .val (.int (0 : Int32)), .unset, .unset] [(.ref b196)]
          refine own_astore (q := 141) (L' := #[.val (.int i0), .val (.int i1), .val (.int i2), .val (.int i3), .val (.int (i0 &&& (3 : Int32))), .val (.int c), .val (.ref b196), .unset, .val (.int (0 : Int32)), .unset, .unset]) A207 at_139 rfl rfl ?_
          refine own_iload (q := 143) (v := (0 : Int32)) A207 at_141 rfl ?_
          refine own_bipush (q := 145) A207 (6 : Int32) at_143 rfl ?_
          refine own_icmpT (q := 152) A207 at_145 (show ¬ (0 : Int32) = (6 : Int32) from by decide) ?_
          refine own_iconst (q := 153) A207 (0 : Int32) at_152 rfl ?_
          refine own_istore (q := 155) (L' := #[.val (.int i0), .val (.int i1), .val (.int i2), .val (.int i3), .val (.int (i0 &&& (3 : Int32))), .val (.int c), .val (.ref b196), .val (.int (0 : Int32)), .val (.int (0 : Int32)), .unset, .unset]) A207 at_153 rfl ?_
          refine own_goto (q := 232) A207 at_155 ?_
          exact rm_tail0 l Z a0 hw zc dA uA b196 t197 k198 [(116 : Int32), (105 : Int32), (109 : Int32), (101 : Int32), (111 : Int32), (117 : Int32), (116 : Int32)] 7 _ h206 n0 hEL SC hz SD SU X200 V202 C201 K203 (own_cod [(116 : Int32), (105 : Int32), (109 : Int32), (101 : Int32), (111 : Int32), (117 : Int32), (116 : Int32)] (n := 7) rfl (fun yy hy => ((show ∀ yy ∈ [(116 : Int32), (105 : Int32), (109 : Int32), (101 : Int32), (111 : Int32), (117 : Int32), (116 : Int32)], ¬ yy < 0 ∧ ¬ (255 : Int32) < yy from (own_fc (by decide) (own_fc (by decide) (own_fc (by decide) (own_fc (by decide) (own_fc (by decide) (own_fc (by decide) (own_fc (by decide) (fun _ z => nomatch z))))))))) yy hy).2) rfl rfl) (own_b16 (own_fc (by decide) (own_fc (by decide) (own_fc (by decide) (own_fc (by decide) (own_fc (by decide) (own_fc (by decide) (own_fc (by decide) (fun _ z => nomatch z))))))))) (Nat.le_of_ble_eq_true rfl) (fun q => absurd (show (7 : Nat) = 9 from congrArg List.length q) (by decide)) (Or.inr (Or.inl ⟨_, rfl⟩)) (Or.inl rfl) hQ (A207.up (by decide) (by decide))
        · rw [qk]
          refine own_istore (q := 134) (L' := #[.val (.int i0), .val (.int i1), .val (.int i2), .val (.int i3), .val (.int (i0 &&& (3 : Int32))), .val (.int c), .unset, .unset, .val (.int (1 : Int32)), .unset, .unset]) A0 at_132 rfl ?_
          refine own_iload (q := 136) (v := (1 : Int32)) A0 at_134 rfl ?_
          refine own_staticW (q := 139) (W := 0) (argsL := [(.int (1 : Int32))]) (rest := []) A0 (hw _ (List.mem_of_getElem? (i := 95) rfl)) (hw _ (List.mem_of_getElem? (i := 96) rfl)) (hw _ (List.mem_of_getElem? (i := 2) rfl)) (hw _ (List.mem_of_getElem? (i := 97) rfl)) (by decide) (own_payW (rm_con1 l Z a0 hw zc dA uA  h0 n0 A0.old hEL SC hz SD SU ) (hw _ (List.mem_of_getElem? (i := 97) rfl)) (hw _ (List.mem_of_getElem? (i := 2) rfl)) (by decide) (by decide)) (fun _ z => nomatch z) (Nat.le_of_eq rfl) own_pd2 rfl rfl rfl at_136 (by decide) (by decide) ?_
          rintro v216 T217 h218 A219 ⟨b208, t209, k210, rfl, E211, X212, C213, V214, K215⟩
          show own_Run p e below Q m T217 139 #[.val (.int i0), .val (.int i1), .val (.int i2), .val (.int i3), .val (.int (i0 &&& (3 : Int32))), .val (.int c), .unset, .unset, .val (.int (1 : Int32)), .unset, .unset] [(.ref b208)]
          refine own_astore (q := 141) (L' := #[.val (.int i0), .val (.int i1), .val (.int i2), .val (.int i3), .val (.int (i0 &&& (3 : Int32))), .val (.int c), .val (.ref b208), .unset, .val (.int (1 : Int32)), .unset, .unset]) A219 at_139 rfl rfl ?_
          refine own_iload (q := 143) (v := (1 : Int32)) A219 at_141 rfl ?_
          refine own_bipush (q := 145) A219 (6 : Int32) at_143 rfl ?_
          refine own_icmpT (q := 152) A219 at_145 (show ¬ (1 : Int32) = (6 : Int32) from by decide) ?_
          refine own_iconst (q := 153) A219 (0 : Int32) at_152 rfl ?_
          refine own_istore (q := 155) (L' := #[.val (.int i0), .val (.int i1), .val (.int i2), .val (.int i3), .val (.int (i0 &&& (3 : Int32))), .val (.int c), .val (.ref b208), .val (.int (0 : Int32)), .val (.int (1 : Int32)), .unset, .unset]) A219 at_153 rfl ?_
          refine own_goto (q := 232) A219 at_155 ?_
          exact rm_tail0 l Z a0 hw zc dA uA b208 t209 k210 [(114 : Int32), (101 : Int32), (102 : Int32), (117 : Int32), (115 : Int32), (101 : Int32), (100 : Int32)] 7 _ h218 n0 hEL SC hz SD SU X212 V214 C213 K215 (own_cod [(114 : Int32), (101 : Int32), (102 : Int32), (117 : Int32), (115 : Int32), (101 : Int32), (100 : Int32)] (n := 7) rfl (fun yy hy => ((show ∀ yy ∈ [(114 : Int32), (101 : Int32), (102 : Int32), (117 : Int32), (115 : Int32), (101 : Int32), (100 : Int32)], ¬ yy < 0 ∧ ¬ (255 : Int32) < yy from (own_fc (by decide) (own_fc (by decide) (own_fc (by decide) (own_fc (by decide) (own_fc (by decide) (own_fc (by decide) (own_fc (by decide) (fun _ z => nomatch z))))))))) yy hy).2) rfl rfl) (own_b16 (own_fc (by decide) (own_fc (by decide) (own_fc (by decide) (own_fc (by decide) (own_fc (by decide) (own_fc (by decide) (own_fc (by decide) (fun _ z => nomatch z))))))))) (Nat.le_of_ble_eq_true rfl) (fun q => absurd (show (7 : Nat) = 9 from congrArg List.length q) (by decide)) (Or.inr (Or.inl ⟨_, rfl⟩)) (Or.inl rfl) hQ (A219.up (by decide) (by decide))
        · rw [qk]
          refine own_istore (q := 134) (L' := #[.val (.int i0), .val (.int i1), .val (.int i2), .val (.int i3), .val (.int (i0 &&& (3 : Int32))), .val (.int c), .unset, .unset, .val (.int (2 : Int32)), .unset, .unset]) A0 at_132 rfl ?_
          refine own_iload (q := 136) (v := (2 : Int32)) A0 at_134 rfl ?_
          refine own_staticW (q := 139) (W := 0) (argsL := [(.int (2 : Int32))]) (rest := []) A0 (hw _ (List.mem_of_getElem? (i := 95) rfl)) (hw _ (List.mem_of_getElem? (i := 96) rfl)) (hw _ (List.mem_of_getElem? (i := 2) rfl)) (hw _ (List.mem_of_getElem? (i := 97) rfl)) (by decide) (own_payW (rm_con2 l Z a0 hw zc dA uA  h0 n0 A0.old hEL SC hz SD SU ) (hw _ (List.mem_of_getElem? (i := 97) rfl)) (hw _ (List.mem_of_getElem? (i := 2) rfl)) (by decide) (by decide)) (fun _ z => nomatch z) (Nat.le_of_eq rfl) own_pd2 rfl rfl rfl at_136 (by decide) (by decide) ?_
          rintro v228 T229 h230 A231 ⟨b220, t221, k222, rfl, E223, X224, C225, V226, K227⟩
          show own_Run p e below Q m T229 139 #[.val (.int i0), .val (.int i1), .val (.int i2), .val (.int i3), .val (.int (i0 &&& (3 : Int32))), .val (.int c), .unset, .unset, .val (.int (2 : Int32)), .unset, .unset] [(.ref b220)]
          refine own_astore (q := 141) (L' := #[.val (.int i0), .val (.int i1), .val (.int i2), .val (.int i3), .val (.int (i0 &&& (3 : Int32))), .val (.int c), .val (.ref b220), .unset, .val (.int (2 : Int32)), .unset, .unset]) A231 at_139 rfl rfl ?_
          refine own_iload (q := 143) (v := (2 : Int32)) A231 at_141 rfl ?_
          refine own_bipush (q := 145) A231 (6 : Int32) at_143 rfl ?_
          refine own_icmpT (q := 152) A231 at_145 (show ¬ (2 : Int32) = (6 : Int32) from by decide) ?_
          refine own_iconst (q := 153) A231 (0 : Int32) at_152 rfl ?_
          refine own_istore (q := 155) (L' := #[.val (.int i0), .val (.int i1), .val (.int i2), .val (.int i3), .val (.int (i0 &&& (3 : Int32))), .val (.int c), .val (.ref b220), .val (.int (0 : Int32)), .val (.int (2 : Int32)), .unset, .unset]) A231 at_153 rfl ?_
          refine own_goto (q := 232) A231 at_155 ?_
          exact rm_tail0 l Z a0 hw zc dA uA b220 t221 k222 [(110 : Int32), (111 : Int32), (45 : Int32), (97 : Int32), (110 : Int32), (115 : Int32), (119 : Int32), (101 : Int32), (114 : Int32)] 9 _ h230 n0 hEL SC hz SD SU X224 V226 C225 K227 (own_cod [(110 : Int32), (111 : Int32), (45 : Int32), (97 : Int32), (110 : Int32), (115 : Int32), (119 : Int32), (101 : Int32), (114 : Int32)] (n := 9) rfl (fun yy hy => ((show ∀ yy ∈ [(110 : Int32), (111 : Int32), (45 : Int32), (97 : Int32), (110 : Int32), (115 : Int32), (119 : Int32), (101 : Int32), (114 : Int32)], ¬ yy < 0 ∧ ¬ (255 : Int32) < yy from (own_fc (by decide) (own_fc (by decide) (own_fc (by decide) (own_fc (by decide) (own_fc (by decide) (own_fc (by decide) (own_fc (by decide) (own_fc (by decide) (own_fc (by decide) (fun _ z => nomatch z))))))))))) yy hy).2) rfl rfl) (own_b16 (own_fc (by decide) (own_fc (by decide) (own_fc (by decide) (own_fc (by decide) (own_fc (by decide) (own_fc (by decide) (own_fc (by decide) (own_fc (by decide) (own_fc (by decide) (fun _ z => nomatch z))))))))))) (Nat.le_of_ble_eq_true rfl) (by decide) (Or.inr (Or.inl ⟨_, rfl⟩)) (Or.inl rfl) hQ (A231.up (by decide) (by decide))
        · rw [qk]
          refine own_istore (q := 134) (L' := #[.val (.int i0), .val (.int i1), .val (.int i2), .val (.int i3), .val (.int (i0 &&& (3 : Int32))), .val (.int c), .unset, .unset, .val (.int (3 : Int32)), .unset, .unset]) A0 at_132 rfl ?_
          refine own_iload (q := 136) (v := (3 : Int32)) A0 at_134 rfl ?_
          refine own_staticW (q := 139) (W := 0) (argsL := [(.int (3 : Int32))]) (rest := []) A0 (hw _ (List.mem_of_getElem? (i := 95) rfl)) (hw _ (List.mem_of_getElem? (i := 96) rfl)) (hw _ (List.mem_of_getElem? (i := 2) rfl)) (hw _ (List.mem_of_getElem? (i := 97) rfl)) (by decide) (own_payW (rm_con3 l Z a0 hw zc dA uA  h0 n0 A0.old hEL SC hz SD SU ) (hw _ (List.mem_of_getElem? (i := 97) rfl)) (hw _ (List.mem_of_getElem? (i := 2) rfl)) (by decide) (by decide)) (fun _ z => nomatch z) (Nat.le_of_eq rfl) own_pd2 rfl rfl rfl at_136 (by decide) (by decide) ?_
          rintro v240 T241 h242 A243 ⟨b232, t233, k234, rfl, E235, X236, C237, V238, K239⟩
          show own_Run p e below Q m T241 139 #[.val (.int i0), .val (.int i1), .val (.int i2), .val (.int i3), .val (.int (i0 &&& (3 : Int32))), .val (.int c), .unset, .unset, .val (.int (3 : Int32)), .unset, .unset] [(.ref b232)]
          refine own_astore (q := 141) (L' := #[.val (.int i0), .val (.int i1), .val (.int i2), .val (.int i3), .val (.int (i0 &&& (3 : Int32))), .val (.int c), .val (.ref b232), .unset, .val (.int (3 : Int32)), .unset, .unset]) A243 at_139 rfl rfl ?_
          refine own_iload (q := 143) (v := (3 : Int32)) A243 at_141 rfl ?_
          refine own_bipush (q := 145) A243 (6 : Int32) at_143 rfl ?_
          refine own_icmpT (q := 152) A243 at_145 (show ¬ (3 : Int32) = (6 : Int32) from by decide) ?_
          refine own_iconst (q := 153) A243 (0 : Int32) at_152 rfl ?_
          refine own_istore (q := 155) (L' := #[.val (.int i0), .val (.int i1), .val (.int i2), .val (.int i3), .val (.int (i0 &&& (3 : Int32))), .val (.int c), .val (.ref b232), .val (.int (0 : Int32)), .val (.int (3 : Int32)), .unset, .unset]) A243 at_153 rfl ?_
          refine own_goto (q := 232) A243 at_155 ?_
          exact rm_tail0 l Z a0 hw zc dA uA b232 t233 k234 [(117 : Int32), (110 : Int32), (107 : Int32), (110 : Int32), (111 : Int32), (119 : Int32), (110 : Int32), (45 : Int32), (104 : Int32), (111 : Int32), (115 : Int32), (116 : Int32)] 12 _ h242 n0 hEL SC hz SD SU X236 V238 C237 K239 (own_cod [(117 : Int32), (110 : Int32), (107 : Int32), (110 : Int32), (111 : Int32), (119 : Int32), (110 : Int32), (45 : Int32), (104 : Int32), (111 : Int32), (115 : Int32), (116 : Int32)] (n := 12) rfl (fun yy hy => ((show ∀ yy ∈ [(117 : Int32), (110 : Int32), (107 : Int32), (110 : Int32), (111 : Int32), (119 : Int32), (110 : Int32), (45 : Int32), (104 : Int32), (111 : Int32), (115 : Int32), (116 : Int32)], ¬ yy < 0 ∧ ¬ (255 : Int32) < yy from (own_fc (by decide) (own_fc (by decide) (own_fc (by decide) (own_fc (by decide) (own_fc (by decide) (own_fc (by decide) (own_fc (by decide) (own_fc (by decide) (own_fc (by decide) (own_fc (by decide) (own_fc (by decide) (own_fc (by decide) (fun _ z => nomatch z)))))))))))))) yy hy).2) rfl rfl) (own_b16 (own_fc (by decide) (own_fc (by decide) (own_fc (by decide) (own_fc (by decide) (own_fc (by decide) (own_fc (by decide) (own_fc (by decide) (own_fc (by decide) (own_fc (by decide) (own_fc (by decide) (own_fc (by decide) (own_fc (by decide) (fun _ z => nomatch z)))))))))))))) (Nat.le_of_ble_eq_true rfl) (fun q => absurd (show (12 : Nat) = 9 from congrArg List.length q) (by decide)) (Or.inr (Or.inl ⟨_, rfl⟩)) (Or.inl rfl) hQ (A243.up (by decide) (by decide))
        · rw [qk]
          refine own_istore (q := 134) (L' := #[.val (.int i0), .val (.int i1), .val (.int i2), .val (.int i3), .val (.int (i0 &&& (3 : Int32))), .val (.int c), .unset, .unset, .val (.int (4 : Int32)), .unset, .unset]) A0 at_132 rfl ?_
          refine own_iload (q := 136) (v := (4 : Int32)) A0 at_134 rfl ?_
          refine own_staticW (q := 139) (W := 0) (argsL := [(.int (4 : Int32))]) (rest := []) A0 (hw _ (List.mem_of_getElem? (i := 95) rfl)) (hw _ (List.mem_of_getElem? (i := 96) rfl)) (hw _ (List.mem_of_getElem? (i := 2) rfl)) (hw _ (List.mem_of_getElem? (i := 97) rfl)) (by decide) (own_payW (rm_con4 l Z a0 hw zc dA uA  h0 n0 A0.old hEL SC hz SD SU ) (hw _ (List.mem_of_getElem? (i := 97) rfl)) (hw _ (List.mem_of_getElem? (i := 2) rfl)) (by decide) (by decide)) (fun _ z => nomatch z) (Nat.le_of_eq rfl) own_pd2 rfl rfl rfl at_136 (by decide) (by decide) ?_
          rintro v252 T253 h254 A255 ⟨b244, t245, k246, rfl, E247, X248, C249, V250, K251⟩
          show own_Run p e below Q m T253 139 #[.val (.int i0), .val (.int i1), .val (.int i2), .val (.int i3), .val (.int (i0 &&& (3 : Int32))), .val (.int c), .unset, .unset, .val (.int (4 : Int32)), .unset, .unset] [(.ref b244)]
          refine own_astore (q := 141) (L' := #[.val (.int i0), .val (.int i1), .val (.int i2), .val (.int i3), .val (.int (i0 &&& (3 : Int32))), .val (.int c), .val (.ref b244), .unset, .val (.int (4 : Int32)), .unset, .unset]) A255 at_139 rfl rfl ?_
          refine own_iload (q := 143) (v := (4 : Int32)) A255 at_141 rfl ?_
          refine own_bipush (q := 145) A255 (6 : Int32) at_143 rfl ?_
          refine own_icmpT (q := 152) A255 at_145 (show ¬ (4 : Int32) = (6 : Int32) from by decide) ?_
          refine own_iconst (q := 153) A255 (0 : Int32) at_152 rfl ?_
          refine own_istore (q := 155) (L' := #[.val (.int i0), .val (.int i1), .val (.int i2), .val (.int i3), .val (.int (i0 &&& (3 : Int32))), .val (.int c), .val (.ref b244), .val (.int (0 : Int32)), .val (.int (4 : Int32)), .unset, .unset]) A255 at_153 rfl ?_
          refine own_goto (q := 232) A255 at_155 ?_
          exact rm_tail0 l Z a0 hw zc dA uA b244 t245 k246 [(116 : Int32), (108 : Int32), (115 : Int32), (45 : Int32), (101 : Int32), (114 : Int32), (114 : Int32), (111 : Int32), (114 : Int32)] 9 _ h254 n0 hEL SC hz SD SU X248 V250 C249 K251 (own_cod [(116 : Int32), (108 : Int32), (115 : Int32), (45 : Int32), (101 : Int32), (114 : Int32), (114 : Int32), (111 : Int32), (114 : Int32)] (n := 9) rfl (fun yy hy => ((show ∀ yy ∈ [(116 : Int32), (108 : Int32), (115 : Int32), (45 : Int32), (101 : Int32), (114 : Int32), (114 : Int32), (111 : Int32), (114 : Int32)], ¬ yy < 0 ∧ ¬ (255 : Int32) < yy from (own_fc (by decide) (own_fc (by decide) (own_fc (by decide) (own_fc (by decide) (own_fc (by decide) (own_fc (by decide) (own_fc (by decide) (own_fc (by decide) (own_fc (by decide) (fun _ z => nomatch z))))))))))) yy hy).2) rfl rfl) (own_b16 (own_fc (by decide) (own_fc (by decide) (own_fc (by decide) (own_fc (by decide) (own_fc (by decide) (own_fc (by decide) (own_fc (by decide) (own_fc (by decide) (own_fc (by decide) (fun _ z => nomatch z))))))))))) (Nat.le_of_ble_eq_true rfl) (by decide) (Or.inr (Or.inl ⟨_, rfl⟩)) (Or.inl rfl) hQ (A255.up (by decide) (by decide))
        · rw [qk]
          refine own_istore (q := 134) (L' := #[.val (.int i0), .val (.int i1), .val (.int i2), .val (.int i3), .val (.int (i0 &&& (3 : Int32))), .val (.int c), .unset, .unset, .val (.int (5 : Int32)), .unset, .unset]) A0 at_132 rfl ?_
          refine own_iload (q := 136) (v := (5 : Int32)) A0 at_134 rfl ?_
          refine own_staticW (q := 139) (W := 0) (argsL := [(.int (5 : Int32))]) (rest := []) A0 (hw _ (List.mem_of_getElem? (i := 95) rfl)) (hw _ (List.mem_of_getElem? (i := 96) rfl)) (hw _ (List.mem_of_getElem? (i := 2) rfl)) (hw _ (List.mem_of_getElem? (i := 97) rfl)) (by decide) (own_payW (rm_con5 l Z a0 hw zc dA uA  h0 n0 A0.old hEL SC hz SD SU ) (hw _ (List.mem_of_getElem? (i := 97) rfl)) (hw _ (List.mem_of_getElem? (i := 2) rfl)) (by decide) (by decide)) (fun _ z => nomatch z) (Nat.le_of_eq rfl) own_pd2 rfl rfl rfl at_136 (by decide) (by decide) ?_
          rintro v264 T265 h266 A267 ⟨b256, t257, k258, rfl, E259, X260, C261, V262, K263⟩
          show own_Run p e below Q m T265 139 #[.val (.int i0), .val (.int i1), .val (.int i2), .val (.int i3), .val (.int (i0 &&& (3 : Int32))), .val (.int c), .unset, .unset, .val (.int (5 : Int32)), .unset, .unset] [(.ref b256)]
          refine own_astore (q := 141) (L' := #[.val (.int i0), .val (.int i1), .val (.int i2), .val (.int i3), .val (.int (i0 &&& (3 : Int32))), .val (.int c), .val (.ref b256), .unset, .val (.int (5 : Int32)), .unset, .unset]) A267 at_139 rfl rfl ?_
          refine own_iload (q := 143) (v := (5 : Int32)) A267 at_141 rfl ?_
          refine own_bipush (q := 145) A267 (6 : Int32) at_143 rfl ?_
          refine own_icmpT (q := 152) A267 at_145 (show ¬ (5 : Int32) = (6 : Int32) from by decide) ?_
          refine own_iconst (q := 153) A267 (0 : Int32) at_152 rfl ?_
          refine own_istore (q := 155) (L' := #[.val (.int i0), .val (.int i1), .val (.int i2), .val (.int i3), .val (.int (i0 &&& (3 : Int32))), .val (.int c), .val (.ref b256), .val (.int (0 : Int32)), .val (.int (5 : Int32)), .unset, .unset]) A267 at_153 rfl ?_
          refine own_goto (q := 232) A267 at_155 ?_
          exact rm_tail0 l Z a0 hw zc dA uA b256 t257 k258 [(110 : Int32), (111 : Int32), (116 : Int32), (45 : Int32), (115 : Int32), (101 : Int32), (110 : Int32), (116 : Int32)] 8 _ h266 n0 hEL SC hz SD SU X260 V262 C261 K263 (own_cod [(110 : Int32), (111 : Int32), (116 : Int32), (45 : Int32), (115 : Int32), (101 : Int32), (110 : Int32), (116 : Int32)] (n := 8) rfl (fun yy hy => ((show ∀ yy ∈ [(110 : Int32), (111 : Int32), (116 : Int32), (45 : Int32), (115 : Int32), (101 : Int32), (110 : Int32), (116 : Int32)], ¬ yy < 0 ∧ ¬ (255 : Int32) < yy from (own_fc (by decide) (own_fc (by decide) (own_fc (by decide) (own_fc (by decide) (own_fc (by decide) (own_fc (by decide) (own_fc (by decide) (own_fc (by decide) (fun _ z => nomatch z)))))))))) yy hy).2) rfl rfl) (own_b16 (own_fc (by decide) (own_fc (by decide) (own_fc (by decide) (own_fc (by decide) (own_fc (by decide) (own_fc (by decide) (own_fc (by decide) (own_fc (by decide) (fun _ z => nomatch z)))))))))) (Nat.le_of_ble_eq_true rfl) (fun q => absurd (show (8 : Nat) = 9 from congrArg List.length q) (by decide)) (Or.inr (Or.inl ⟨_, rfl⟩)) (Or.inl rfl) hQ (A267.up (by decide) (by decide))
        · rw [qk]
          refine own_istore (q := 134) (L' := #[.val (.int i0), .val (.int i1), .val (.int i2), .val (.int i3), .val (.int (i0 &&& (3 : Int32))), .val (.int c), .unset, .unset, .val (.int (6 : Int32)), .unset, .unset]) A0 at_132 rfl ?_
          refine own_iload (q := 136) (v := (6 : Int32)) A0 at_134 rfl ?_
          refine own_staticW (q := 139) (W := 0) (argsL := [(.int (6 : Int32))]) (rest := []) A0 (hw _ (List.mem_of_getElem? (i := 95) rfl)) (hw _ (List.mem_of_getElem? (i := 96) rfl)) (hw _ (List.mem_of_getElem? (i := 2) rfl)) (hw _ (List.mem_of_getElem? (i := 97) rfl)) (by decide) (own_payW (rm_con6 l Z a0 hw zc dA uA  h0 n0 A0.old hEL SC hz SD SU ) (hw _ (List.mem_of_getElem? (i := 97) rfl)) (hw _ (List.mem_of_getElem? (i := 2) rfl)) (by decide) (by decide)) (fun _ z => nomatch z) (Nat.le_of_eq rfl) own_pd2 rfl rfl rfl at_136 (by decide) (by decide) ?_
          rintro v276 T277 h278 A279 ⟨b268, t269, k270, rfl, E271, X272, C273, V274, K275⟩
          show own_Run p e below Q m T277 139 #[.val (.int i0), .val (.int i1), .val (.int i2), .val (.int i3), .val (.int (i0 &&& (3 : Int32))), .val (.int c), .unset, .unset, .val (.int (6 : Int32)), .unset, .unset] [(.ref b268)]
          refine own_astore (q := 141) (L' := #[.val (.int i0), .val (.int i1), .val (.int i2), .val (.int i3), .val (.int (i0 &&& (3 : Int32))), .val (.int c), .val (.ref b268), .unset, .val (.int (6 : Int32)), .unset, .unset]) A279 at_139 rfl rfl ?_
          refine own_iload (q := 143) (v := (6 : Int32)) A279 at_141 rfl ?_
          refine own_bipush (q := 145) A279 (6 : Int32) at_143 rfl ?_
          refine own_icmpF (q := 148) A279 at_145 (show (6 : Int32) = (6 : Int32) from by decide) ?_
          refine own_iconst (q := 149) A279 (1 : Int32) at_148 rfl ?_
          refine own_goto (q := 153) A279 at_149 ?_
          refine own_istore (q := 155) (L' := #[.val (.int i0), .val (.int i1), .val (.int i2), .val (.int i3), .val (.int (i0 &&& (3 : Int32))), .val (.int c), .val (.ref b268), .val (.int (1 : Int32)), .val (.int (6 : Int32)), .unset, .unset]) A279 at_153 rfl ?_
          refine own_goto (q := 232) A279 at_155 ?_
          exact rm_tail1 l Z a0 hw zc dA uA b268 t269 k270 [(114 : Int32), (101 : Int32), (100 : Int32), (105 : Int32), (114 : Int32), (101 : Int32), (99 : Int32), (116 : Int32), (115 : Int32)] 9 _ h278 n0 hEL SC hz SD SU X272 V274 C273 K275 (own_cod [(114 : Int32), (101 : Int32), (100 : Int32), (105 : Int32), (114 : Int32), (101 : Int32), (99 : Int32), (116 : Int32), (115 : Int32)] (n := 9) rfl (fun yy hy => ((show ∀ yy ∈ [(114 : Int32), (101 : Int32), (100 : Int32), (105 : Int32), (114 : Int32), (101 : Int32), (99 : Int32), (116 : Int32), (115 : Int32)], ¬ yy < 0 ∧ ¬ (255 : Int32) < yy from (own_fc (by decide) (own_fc (by decide) (own_fc (by decide) (own_fc (by decide) (own_fc (by decide) (own_fc (by decide) (own_fc (by decide) (own_fc (by decide) (own_fc (by decide) (fun _ z => nomatch z))))))))))) yy hy).2) rfl rfl) (own_b16 (own_fc (by decide) (own_fc (by decide) (own_fc (by decide) (own_fc (by decide) (own_fc (by decide) (own_fc (by decide) (own_fc (by decide) (own_fc (by decide) (own_fc (by decide) (fun _ z => nomatch z))))))))))) (Nat.le_of_ble_eq_true rfl) rfl (Or.inr (Or.inl ⟨_, rfl⟩)) (Or.inl rfl) hQ (A279.up (by decide) (by decide))
        · rw [qk]
          refine own_istore (q := 134) (L' := #[.val (.int i0), .val (.int i1), .val (.int i2), .val (.int i3), .val (.int (i0 &&& (3 : Int32))), .val (.int c), .unset, .unset, .val (.int (7 : Int32)), .unset, .unset]) A0 at_132 rfl ?_
          refine own_iload (q := 136) (v := (7 : Int32)) A0 at_134 rfl ?_
          refine own_staticW (q := 139) (W := 0) (argsL := [(.int (7 : Int32))]) (rest := []) A0 (hw _ (List.mem_of_getElem? (i := 95) rfl)) (hw _ (List.mem_of_getElem? (i := 96) rfl)) (hw _ (List.mem_of_getElem? (i := 2) rfl)) (hw _ (List.mem_of_getElem? (i := 97) rfl)) (by decide) (own_payW (rm_con7 l Z a0 hw zc dA uA  h0 n0 A0.old hEL SC hz SD SU ) (hw _ (List.mem_of_getElem? (i := 97) rfl)) (hw _ (List.mem_of_getElem? (i := 2) rfl)) (by decide) (by decide)) (fun _ z => nomatch z) (Nat.le_of_eq rfl) own_pd2 rfl rfl rfl at_136 (by decide) (by decide) ?_
          rintro v288 T289 h290 A291 ⟨b280, t281, k282, rfl, E283, X284, C285, V286, K287⟩
          show own_Run p e below Q m T289 139 #[.val (.int i0), .val (.int i1), .val (.int i2), .val (.int i3), .val (.int (i0 &&& (3 : Int32))), .val (.int c), .unset, .unset, .val (.int (7 : Int32)), .unset, .unset] [(.ref b280)]
          refine own_astore (q := 141) (L' := #[.val (.int i0), .val (.int i1), .val (.int i2), .val (.int i3), .val (.int (i0 &&& (3 : Int32))), .val (.int c), .val (.ref b280), .unset, .val (.int (7 : Int32)), .unset, .unset]) A291 at_139 rfl rfl ?_
          refine own_iload (q := 143) (v := (7 : Int32)) A291 at_141 rfl ?_
          refine own_bipush (q := 145) A291 (6 : Int32) at_143 rfl ?_
          refine own_icmpT (q := 152) A291 at_145 (show ¬ (7 : Int32) = (6 : Int32) from by decide) ?_
          refine own_iconst (q := 153) A291 (0 : Int32) at_152 rfl ?_
          refine own_istore (q := 155) (L' := #[.val (.int i0), .val (.int i1), .val (.int i2), .val (.int i3), .val (.int (i0 &&& (3 : Int32))), .val (.int c), .val (.ref b280), .val (.int (0 : Int32)), .val (.int (7 : Int32)), .unset, .unset]) A291 at_153 rfl ?_
          refine own_goto (q := 232) A291 at_155 ?_
          exact rm_tail0 l Z a0 hw zc dA uA b280 t281 k282 [(45 : Int32)] 1 _ h290 n0 hEL SC hz SD SU X284 V286 C285 K287 (own_cod [(45 : Int32)] (n := 1) rfl (fun yy hy => ((show ∀ yy ∈ [(45 : Int32)], ¬ yy < 0 ∧ ¬ (255 : Int32) < yy from (own_fc (by decide) (fun _ z => nomatch z))) yy hy).2) rfl rfl) (own_b16 (own_fc (by decide) (fun _ z => nomatch z))) (Nat.le_of_ble_eq_true rfl) (fun q => absurd (show (1 : Nat) = 9 from congrArg List.length q) (by decide)) (Or.inr (Or.inl ⟨_, rfl⟩)) (Or.inl rfl) hQ (A291.up (by decide) (by decide))
    · rintro (c2 : (i0 &&& (3 : Int32)) = (1 : Int32))
      refine own_iloadN (q := 81) (v := i3) A0 at_80 rfl ?_
      refine own_ldcI (q := 83) A0 (hw _ (List.mem_of_getElem? (i := 5) rfl)) at_81 ?_
      refine own_iand (q := 84) A0 at_83 ?_
      refine own_bipush (q := 86) A0 (11 : Int32) at_84 rfl ?_
      refine own_irem (q := 87) A0 at_86 (by decide) ?_
      rcases own_rem11 i3 with qk | qk | qk | qk | qk | qk | qk | qk | qk | qk | qk
      · rw [qk]
        refine own_istore (q := 89) (L' := #[.val (.int i0), .val (.int i1), .val (.int i2), .val (.int i3), .val (.int (i0 &&& (3 : Int32))), .val (.int c), .unset, .unset, .val (.int (0 : Int32)), .unset, .unset]) A0 at_87 rfl ?_
        refine own_newO (q := 92) A0 (hw _ (List.mem_of_getElem? (i := 6) rfl)) (hw _ (List.mem_of_getElem? (i := 7) rfl)) (hw _ (List.mem_of_getElem? (i := 8) rfl)) at_89 (by decide) (by decide) ?_
        intro T292 h293 a294 g295 g296 A297 E298 X299 D300
        have f301 : Fld Z h293 a294 "java/lang/String" "value" "[B" .null := D300 (Or.inr (hw _ (List.mem_of_getElem? (i := 34) rfl))) (ty := (.array .byte)) (by decide)
        have f302 : Fld Z h293 a294 "java/lang/String" "coder" "B" (.int (0 : Int32)) := D300 (Or.inr (hw _ (List.mem_of_getElem? (i := 32) rfl))) (ty := .byte) (by decide)
        refine own_dup (q := 93) A297 at_92 rfl ?_
        refine own_iload (q := 95) (v := (0 : Int32)) A297 at_93 rfl ?_
        refine own_iload (q := 97) (v := c) A297 at_95 rfl ?_
        refine own_staticW (q := 100) (W := 2) (argsL := [(.int (0 : Int32)), (.int c)]) (rest := [(.ref a294), (.ref a294)]) A297 (hw _ (List.mem_of_getElem? (i := 102) rfl)) (hw _ (List.mem_of_getElem? (i := 103) rfl)) (hw _ (List.mem_of_getElem? (i := 2) rfl)) (hw _ (List.mem_of_getElem? (i := 104) rfl)) (by decide) (own_payW (rm_pre0 l Z a0 hw zc dA uA c h293 n0 A297.old hEL SC hz SD SU hc0 hc1 hnc) (hw _ (List.mem_of_getElem? (i := 104) rfl)) (hw _ (List.mem_of_getElem? (i := 2) rfl)) (by decide) (by decide)) (fun _ z => nomatch z) (Nat.le_of_eq rfl) own_pd1 rfl rfl rfl at_97 (by decide) (by decide) ?_
        rintro v309 T310 h311 A312 ⟨b303, k304, rfl, g305, g306, K307, V308⟩
        show own_Run p e below Q m T310 100 #[.val (.int i0), .val (.int i1), .val (.int i2), .val (.int i3), .val (.int (i0 &&& (3 : Int32))), .val (.int c), .unset, .unset, .val (.int (0 : Int32)), .unset, .unset] [(.ref b303), (.ref a294), (.ref a294)]
        have f313 : Exa Z h311 a294 "java/lang/String" := X299.keep K307
        have f314 : Fld Z h311 a294 "java/lang/String" "value" "[B" .null := f301.keep K307 nin0
        have f315 : Fld Z h311 a294 "java/lang/String" "coder" "B" (.int (0 : Int32)) := f302.keep K307 nin0
        refine own_specialW (q := 103) (W := 1) (argsL := [(.ref b303)]) (rest := [(.ref a294)]) A312 rfl (hw _ (List.mem_of_getElem? (i := 9) rfl)) (hw _ (List.mem_of_getElem? (i := 10) rfl)) (hw _ (List.mem_of_getElem? (i := 11) rfl)) (by decide) (own_payW (rm_ini l Z a0 hw zc dA uA a294 b303 k304 h311 n0 A312.old hEL SC hz SD SU f313 f314 f315 V308 g296) (hw _ (List.mem_of_getElem? (i := 11) rfl)) (hw _ (List.mem_of_getElem? (i := 8) rfl)) (by decide) (by decide)) (by simp) (Nat.le_of_eq rfl) own_pd8 rfl rfl rfl at_100 (by decide) (by decide) ?_
        rintro v325 T326 h327 A328 ⟨rfl, K316, t319, k320, E317, C318, V323, K324⟩
        show own_Run p e below Q m T326 103 #[.val (.int i0), .val (.int i1), .val (.int i2), .val (.int i3), .val (.int (i0 &&& (3 : Int32))), .val (.int c), .unset, .unset, .val (.int (0 : Int32)), .unset, .unset] [(.ref a294)]
        refine own_astore (q := 105) (L' := #[.val (.int i0), .val (.int i1), .val (.int i2), .val (.int i3), .val (.int (i0 &&& (3 : Int32))), .val (.int c), .val (.ref a294), .unset, .val (.int (0 : Int32)), .unset, .unset]) A328 at_103 rfl rfl ?_
        refine own_iload (q := 107) (v := (0 : Int32)) A328 at_105 rfl ?_
        refine own_bipush (q := 109) A328 (9 : Int32) at_107 rfl ?_
        refine own_icmpT (q := 116) A328 at_109 (show ¬ (0 : Int32) = (9 : Int32) from by decide) ?_
        refine own_iconst (q := 117) A328 (0 : Int32) at_116 rfl ?_
        refine own_istore (q := 119) (L' := #[.val (.int i0), .val (.int i1), .val (.int i2), .val (.int i3), .val (.int (i0 &&& (3 : Int32))), .val (.int c), .val (.ref a294), .val (.int (0 : Int32)), .val (.int (0 : Int32)), .unset, .unset]) A328 at_117 rfl ?_
        refine own_goto (q := 232) A328 at_119 ?_
        exact rm_tail0 l Z a0 hw zc dA uA a294 t319 k320 [] 0 _ h327 n0 hEL SC hz SD SU E317 V323 C318 K324 (own_cod [] (n := 0) rfl (fun yy hy => ((show ∀ yy ∈ [], ¬ yy < 0 ∧ ¬ (255 : Int32) < yy from (fun _ z => nomatch z)) yy hy).2) rfl rfl) (own_b16 (fun _ z => nomatch z)) (Nat.le_of_ble_eq_true rfl) (fun q => absurd (show (0 : Nat) = 9 from congrArg List.length q) (by decide)) (Or.inr (Or.inl ⟨_, rfl⟩)) (Or.inl rfl) hQ (A328.up (by decide) (by decide))
      · rw [qk]
        refine own_istore (q := 89) (L' := #[.val (.int i0), .val (.int i1), .val (.int i2), .val (.int i3), .val (.int (i0 &&& (3 : Int32))), .val (.int c), .unset, .unset, .val (.int (1 : Int32)), .unset, .unset]) A0 at_87 rfl ?_
        refine own_newO (q := 92) A0 (hw _ (List.mem_of_getElem? (i := 6) rfl)) (hw _ (List.mem_of_getElem? (i := 7) rfl)) (hw _ (List.mem_of_getElem? (i := 8) rfl)) at_89 (by decide) (by decide) ?_
        intro T329 h330 a331 g332 g333 A334 E335 X336 D337
        have f338 : Fld Z h330 a331 "java/lang/String" "value" "[B" .null := D337 (Or.inr (hw _ (List.mem_of_getElem? (i := 34) rfl))) (ty := (.array .byte)) (by decide)
        have f339 : Fld Z h330 a331 "java/lang/String" "coder" "B" (.int (0 : Int32)) := D337 (Or.inr (hw _ (List.mem_of_getElem? (i := 32) rfl))) (ty := .byte) (by decide)
        refine own_dup (q := 93) A334 at_92 rfl ?_
        refine own_iload (q := 95) (v := (1 : Int32)) A334 at_93 rfl ?_
        refine own_iload (q := 97) (v := c) A334 at_95 rfl ?_
        refine own_staticW (q := 100) (W := 2) (argsL := [(.int (1 : Int32)), (.int c)]) (rest := [(.ref a331), (.ref a331)]) A334 (hw _ (List.mem_of_getElem? (i := 102) rfl)) (hw _ (List.mem_of_getElem? (i := 103) rfl)) (hw _ (List.mem_of_getElem? (i := 2) rfl)) (hw _ (List.mem_of_getElem? (i := 104) rfl)) (by decide) (own_payW (rm_pre1 l Z a0 hw zc dA uA c h330 n0 A334.old hEL SC hz SD SU hc0 hc1 hnc) (hw _ (List.mem_of_getElem? (i := 104) rfl)) (hw _ (List.mem_of_getElem? (i := 2) rfl)) (by decide) (by decide)) (fun _ z => nomatch z) (Nat.le_of_eq rfl) own_pd1 rfl rfl rfl at_97 (by decide) (by decide) ?_
        rintro v346 T347 h348 A349 ⟨b340, k341, rfl, g342, g343, K344, V345⟩
        show own_Run p e below Q m T347 100 #[.val (.int i0), .val (.int i1), .val (.int i2), .val (.int i3), .val (.int (i0 &&& (3 : Int32))), .val (.int c), .unset, .unset, .val (.int (1 : Int32)), .unset, .unset] [(.ref b340), (.ref a331), (.ref a331)]
        have f350 : Exa Z h348 a331 "java/lang/String" := X336.keep K344
        have f351 : Fld Z h348 a331 "java/lang/String" "value" "[B" .null := f338.keep K344 nin0
        have f352 : Fld Z h348 a331 "java/lang/String" "coder" "B" (.int (0 : Int32)) := f339.keep K344 nin0
        refine own_special (q := 103) (W := 1) (argsL := [(.ref b340)]) (rest := [(.ref a331)]) A349 rfl (hw _ (List.mem_of_getElem? (i := 9) rfl)) (hw _ (List.mem_of_getElem? (i := 10) rfl)) (hw _ (List.mem_of_getElem? (i := 11) rfl)) (by decide) (own_payV (cs := [(114 : Int32)]) (bs := _) (n := 1) (N := 1) (kI := 4) (own_wV hw) (hw _ (List.mem_of_getElem? (i := 7) rfl)) A349.old g333 f350 f351 f352 V345 SC hz rfl rfl (by decide) (by decide) (own_fc (by decide) (fun _ z => nomatch z)) rfl (by decide) (by decide)) (by simp) (Nat.le_of_eq rfl) own_pd8 rfl rfl rfl at_100 (by decide) (by decide) ?_
        rintro v362 T363 h364 A365 ⟨rfl, K353, E354, C355, t356, k357, g358, g359, V360, K361⟩
        show own_Run p e below Q m T363 103 #[.val (.int i0), .val (.int i1), .val (.int i2), .val (.int i3), .val (.int (i0 &&& (3 : Int32))), .val (.int c), .unset, .unset, .val (.int (1 : Int32)), .unset, .unset] [(.ref a331)]
        refine own_astore (q := 105) (L' := #[.val (.int i0), .val (.int i1), .val (.int i2), .val (.int i3), .val (.int (i0 &&& (3 : Int32))), .val (.int c), .val (.ref a331), .unset, .val (.int (1 : Int32)), .unset, .unset]) A365 at_103 rfl rfl ?_
        refine own_iload (q := 107) (v := (1 : Int32)) A365 at_105 rfl ?_
        refine own_bipush (q := 109) A365 (9 : Int32) at_107 rfl ?_
        refine own_icmpT (q := 116) A365 at_109 (show ¬ (1 : Int32) = (9 : Int32) from by decide) ?_
        refine own_iconst (q := 117) A365 (0 : Int32) at_116 rfl ?_
        refine own_istore (q := 119) (L' := #[.val (.int i0), .val (.int i1), .val (.int i2), .val (.int i3), .val (.int (i0 &&& (3 : Int32))), .val (.int c), .val (.ref a331), .val (.int (0 : Int32)), .val (.int (1 : Int32)), .unset, .unset]) A365 at_117 rfl ?_
        refine own_goto (q := 232) A365 at_119 ?_
        exact rm_tail0 l Z a0 hw zc dA uA a331 t356 k357 [(114 : Int32)] 1 _ h364 n0 hEL SC hz SD SU E354 V360 C355 K361 (own_cod [(114 : Int32)] (n := 1) rfl (fun yy hy => ((show ∀ yy ∈ [(114 : Int32)], ¬ yy < 0 ∧ ¬ (255 : Int32) < yy from (own_fc (by decide) (fun _ z => nomatch z))) yy hy).2) rfl rfl) (own_b16 (own_fc (by decide) (fun _ z => nomatch z))) (Nat.le_of_ble_eq_true rfl) (fun q => absurd (show (1 : Nat) = 9 from congrArg List.length q) (by decide)) (Or.inr (Or.inl ⟨_, rfl⟩)) (Or.inl rfl) hQ (A365.up (by decide) (by decide))
      · rw [qk]
        refine own_istore (q := 89) (L' := #[.val (.int i0), .val (.int i1), .val (.int i2), .val (.int i3), .val (.int (i0 &&& (3 : Int32))), .val (.int c), .unset, .unset, .val (.int (2 : Int32)), .unset, .unset]) A0 at_87 rfl ?_
        refine own_newO (q := 92) A0 (hw _ (List.mem_of_getElem? (i := 6) rfl)) (hw _ (List.mem_of_getElem? (i := 7) rfl)) (hw _ (List.mem_of_getElem? (i := 8) rfl)) at_89 (by decide) (by decide) ?_
        intro T366 h367 a368 g369 g370 A371 E372 X373 D374
        have f375 : Fld Z h367 a368 "java/lang/String" "value" "[B" .null := D374 (Or.inr (hw _ (List.mem_of_getElem? (i := 34) rfl))) (ty := (.array .byte)) (by decide)
        have f376 : Fld Z h367 a368 "java/lang/String" "coder" "B" (.int (0 : Int32)) := D374 (Or.inr (hw _ (List.mem_of_getElem? (i := 32) rfl))) (ty := .byte) (by decide)
        refine own_dup (q := 93) A371 at_92 rfl ?_
        refine own_iload (q := 95) (v := (2 : Int32)) A371 at_93 rfl ?_
        refine own_iload (q := 97) (v := c) A371 at_95 rfl ?_
        refine own_staticW (q := 100) (W := 2) (argsL := [(.int (2 : Int32)), (.int c)]) (rest := [(.ref a368), (.ref a368)]) A371 (hw _ (List.mem_of_getElem? (i := 102) rfl)) (hw _ (List.mem_of_getElem? (i := 103) rfl)) (hw _ (List.mem_of_getElem? (i := 2) rfl)) (hw _ (List.mem_of_getElem? (i := 104) rfl)) (by decide) (own_payW (rm_pre2 l Z a0 hw zc dA uA c h367 n0 A371.old hEL SC hz SD SU hc0 hc1 hnc) (hw _ (List.mem_of_getElem? (i := 104) rfl)) (hw _ (List.mem_of_getElem? (i := 2) rfl)) (by decide) (by decide)) (fun _ z => nomatch z) (Nat.le_of_eq rfl) own_pd1 rfl rfl rfl at_97 (by decide) (by decide) ?_
        rintro v383 T384 h385 A386 ⟨b377, k378, rfl, g379, g380, K381, V382⟩
        show own_Run p e below Q m T384 100 #[.val (.int i0), .val (.int i1), .val (.int i2), .val (.int i3), .val (.int (i0 &&& (3 : Int32))), .val (.int c), .unset, .unset, .val (.int (2 : Int32)), .unset, .unset] [(.ref b377), (.ref a368), (.ref a368)]
        have f387 : Exa Z h385 a368 "java/lang/String" := X373.keep K381
        have f388 : Fld Z h385 a368 "java/lang/String" "value" "[B" .null := f375.keep K381 nin0
        have f389 : Fld Z h385 a368 "java/lang/String" "coder" "B" (.int (0 : Int32)) := f376.keep K381 nin0
        refine own_special (q := 103) (W := 1) (argsL := [(.ref b377)]) (rest := [(.ref a368)]) A386 rfl (hw _ (List.mem_of_getElem? (i := 9) rfl)) (hw _ (List.mem_of_getElem? (i := 10) rfl)) (hw _ (List.mem_of_getElem? (i := 11) rfl)) (by decide) (own_payV (cs := [(114 : Int32), (101 : Int32)]) (bs := _) (n := 2) (N := 2) (kI := 4) (own_wV hw) (hw _ (List.mem_of_getElem? (i := 7) rfl)) A386.old g370 f387 f388 f389 V382 SC hz rfl rfl (by decide) (by decide) (own_fc (by decide) (own_fc (by decide) (fun _ z => nomatch z))) rfl (by decide) (by decide)) (by simp) (Nat.le_of_eq rfl) own_pd8 rfl rfl rfl at_100 (by decide) (by decide) ?_
        rintro v399 T400 h401 A402 ⟨rfl, K390, E391, C392, t393, k394, g395, g396, V397, K398⟩
        show own_Run p e below Q m T400 103 #[.val (.int i0), .val (.int i1), .val (.int i2), .val (.int i3), .val (.int (i0 &&& (3 : Int32))), .val (.int c), .unset, .unset, .val (.int (2 : Int32)), .unset, .unset] [(.ref a368)]
        refine own_astore (q := 105) (L' := #[.val (.int i0), .val (.int i1), .val (.int i2), .val (.int i3), .val (.int (i0 &&& (3 : Int32))), .val (.int c), .val (.ref a368), .unset, .val (.int (2 : Int32)), .unset, .unset]) A402 at_103 rfl rfl ?_
        refine own_iload (q := 107) (v := (2 : Int32)) A402 at_105 rfl ?_
        refine own_bipush (q := 109) A402 (9 : Int32) at_107 rfl ?_
        refine own_icmpT (q := 116) A402 at_109 (show ¬ (2 : Int32) = (9 : Int32) from by decide) ?_
        refine own_iconst (q := 117) A402 (0 : Int32) at_116 rfl ?_
        refine own_istore (q := 119) (L' := #[.val (.int i0), .val (.int i1), .val (.int i2), .val (.int i3), .val (.int (i0 &&& (3 : Int32))), .val (.int c), .val (.ref a368), .val (.int (0 : Int32)), .val (.int (2 : Int32)), .unset, .unset]) A402 at_117 rfl ?_
        refine own_goto (q := 232) A402 at_119 ?_
        exact rm_tail0 l Z a0 hw zc dA uA a368 t393 k394 [(114 : Int32), (101 : Int32)] 2 _ h401 n0 hEL SC hz SD SU E391 V397 C392 K398 (own_cod [(114 : Int32), (101 : Int32)] (n := 2) rfl (fun yy hy => ((show ∀ yy ∈ [(114 : Int32), (101 : Int32)], ¬ yy < 0 ∧ ¬ (255 : Int32) < yy from (own_fc (by decide) (own_fc (by decide) (fun _ z => nomatch z)))) yy hy).2) rfl rfl) (own_b16 (own_fc (by decide) (own_fc (by decide) (fun _ z => nomatch z)))) (Nat.le_of_ble_eq_true rfl) (fun q => absurd (show (2 : Nat) = 9 from congrArg List.length q) (by decide)) (Or.inr (Or.inl ⟨_, rfl⟩)) (Or.inl rfl) hQ (A402.up (by decide) (by decide))
      · rw [qk]
        refine own_istore (q := 89) (L' := #[.val (.int i0), .val (.int i1), .val (.int i2), .val (.int i3), .val (.int (i0 &&& (3 : Int32))), .val (.int c), .unset, .unset, .val (.int (3 : Int32)), .unset, .unset]) A0 at_87 rfl ?_
        refine own_newO (q := 92) A0 (hw _ (List.mem_of_getElem? (i := 6) rfl)) (hw _ (List.mem_of_getElem? (i := 7) rfl)) (hw _ (List.mem_of_getElem? (i := 8) rfl)) at_89 (by decide) (by decide) ?_
        intro T403 h404 a405 g406 g407 A408 E409 X410 D411
        have f412 : Fld Z h404 a405 "java/lang/String" "value" "[B" .null := D411 (Or.inr (hw _ (List.mem_of_getElem? (i := 34) rfl))) (ty := (.array .byte)) (by decide)
        have f413 : Fld Z h404 a405 "java/lang/String" "coder" "B" (.int (0 : Int32)) := D411 (Or.inr (hw _ (List.mem_of_getElem? (i := 32) rfl))) (ty := .byte) (by decide)
        refine own_dup (q := 93) A408 at_92 rfl ?_
        refine own_iload (q := 95) (v := (3 : Int32)) A408 at_93 rfl ?_
        refine own_iload (q := 97) (v := c) A408 at_95 rfl ?_
        refine own_staticW (q := 100) (W := 2) (argsL := [(.int (3 : Int32)), (.int c)]) (rest := [(.ref a405), (.ref a405)]) A408 (hw _ (List.mem_of_getElem? (i := 102) rfl)) (hw _ (List.mem_of_getElem? (i := 103) rfl)) (hw _ (List.mem_of_getElem? (i := 2) rfl)) (hw _ (List.mem_of_getElem? (i := 104) rfl)) (by decide) (own_payW (rm_pre3 l Z a0 hw zc dA uA c h404 n0 A408.old hEL SC hz SD SU hc0 hc1 hnc) (hw _ (List.mem_of_getElem? (i := 104) rfl)) (hw _ (List.mem_of_getElem? (i := 2) rfl)) (by decide) (by decide)) (fun _ z => nomatch z) (Nat.le_of_eq rfl) own_pd1 rfl rfl rfl at_97 (by decide) (by decide) ?_
        rintro v420 T421 h422 A423 ⟨b414, k415, rfl, g416, g417, K418, V419⟩
        show own_Run p e below Q m T421 100 #[.val (.int i0), .val (.int i1), .val (.int i2), .val (.int i3), .val (.int (i0 &&& (3 : Int32))), .val (.int c), .unset, .unset, .val (.int (3 : Int32)), .unset, .unset] [(.ref b414), (.ref a405), (.ref a405)]
        have f424 : Exa Z h422 a405 "java/lang/String" := X410.keep K418
        have f425 : Fld Z h422 a405 "java/lang/String" "value" "[B" .null := f412.keep K418 nin0
        have f426 : Fld Z h422 a405 "java/lang/String" "coder" "B" (.int (0 : Int32)) := f413.keep K418 nin0
        refine own_special (q := 103) (W := 1) (argsL := [(.ref b414)]) (rest := [(.ref a405)]) A423 rfl (hw _ (List.mem_of_getElem? (i := 9) rfl)) (hw _ (List.mem_of_getElem? (i := 10) rfl)) (hw _ (List.mem_of_getElem? (i := 11) rfl)) (by decide) (own_payV (cs := [(114 : Int32), (101 : Int32), (100 : Int32)]) (bs := _) (n := 3) (N := 3) (kI := 4) (own_wV hw) (hw _ (List.mem_of_getElem? (i := 7) rfl)) A423.old g407 f424 f425 f426 V419 SC hz rfl rfl (by decide) (by decide) (own_fc (by decide) (own_fc (by decide) (own_fc (by decide) (fun _ z => nomatch z)))) rfl (by decide) (by decide)) (by simp) (Nat.le_of_eq rfl) own_pd8 rfl rfl rfl at_100 (by decide) (by decide) ?_
        rintro v436 T437 h438 A439 ⟨rfl, K427, E428, C429, t430, k431, g432, g433, V434, K435⟩
        show own_Run p e below Q m T437 103 #[.val (.int i0), .val (.int i1), .val (.int i2), .val (.int i3), .val (.int (i0 &&& (3 : Int32))), .val (.int c), .unset, .unset, .val (.int (3 : Int32)), .unset, .unset] [(.ref a405)]
        refine own_astore (q := 105) (L' := #[.val (.int i0), .val (.int i1), .val (.int i2), .val (.int i3), .val (.int (i0 &&& (3 : Int32))), .val (.int c), .val (.ref a405), .unset, .val (.int (3 : Int32)), .unset, .unset]) A439 at_103 rfl rfl ?_
        refine own_iload (q := 107) (v := (3 : Int32)) A439 at_105 rfl ?_
        refine own_bipush (q := 109) A439 (9 : Int32) at_107 rfl ?_
        refine own_icmpT (q := 116) A439 at_109 (show ¬ (3 : Int32) = (9 : Int32) from by decide) ?_
        refine own_iconst (q := 117) A439 (0 : Int32) at_116 rfl ?_
        refine own_istore (q := 119) (L' := #[.val (.int i0), .val (.int i1), .val (.int i2), .val (.int i3), .val (.int (i0 &&& (3 : Int32))), .val (.int c), .val (.ref a405), .val (.int (0 : Int32)), .val (.int (3 : Int32)), .unset, .unset]) A439 at_117 rfl ?_
        refine own_goto (q := 232) A439 at_119 ?_
        exact rm_tail0 l Z a0 hw zc dA uA a405 t430 k431 [(114 : Int32), (101 : Int32), (100 : Int32)] 3 _ h438 n0 hEL SC hz SD SU E428 V434 C429 K435 (own_cod [(114 : Int32), (101 : Int32), (100 : Int32)] (n := 3) rfl (fun yy hy => ((show ∀ yy ∈ [(114 : Int32), (101 : Int32), (100 : Int32)], ¬ yy < 0 ∧ ¬ (255 : Int32) < yy from (own_fc (by decide) (own_fc (by decide) (own_fc (by decide) (fun _ z => nomatch z))))) yy hy).2) rfl rfl) (own_b16 (own_fc (by decide) (own_fc (by decide) (own_fc (by decide) (fun _ z => nomatch z))))) (Nat.le_of_ble_eq_true rfl) (fun q => absurd (show (3 : Nat) = 9 from congrArg List.length q) (by decide)) (Or.inr (Or.inl ⟨_, rfl⟩)) (Or.inl rfl) hQ (A439.up (by decide) (by decide))
      · rw [qk]
        refine own_istore (q := 89) (L' := #[.val (.int i0), .val (.int i1), .val (.int i2), .val (.int i3), .val (.int (i0 &&& (3 : Int32))), .val (.int c), .unset, .unset, .val (.int (4 : Int32)), .unset, .unset]) A0 at_87 rfl ?_
        refine own_newO (q := 92) A0 (hw _ (List.mem_of_getElem? (i := 6) rfl)) (hw _ (List.mem_of_getElem? (i := 7) rfl)) (hw _ (List.mem_of_getElem? (i := 8) rfl)) at_89 (by decide) (by decide) ?_
        intro T440 h441 a442 g443 g444 A445 E446 X447 D448
        have f449 : Fld Z h441 a442 "java/lang/String" "value" "[B" .null := D448 (Or.inr (hw _ (List.mem_of_getElem? (i := 34) rfl))) (ty := (.array .byte)) (by decide)
        have f450 : Fld Z h441 a442 "java/lang/String" "coder" "B" (.int (0 : Int32)) := D448 (Or.inr (hw _ (List.mem_of_getElem? (i := 32) rfl))) (ty := .byte) (by decide)
        refine own_dup (q := 93) A445 at_92 rfl ?_
        refine own_iload (q := 95) (v := (4 : Int32)) A445 at_93 rfl ?_
        refine own_iload (q := 97) (v := c) A445 at_95 rfl ?_
        refine own_staticW (q := 100) (W := 2) (argsL := [(.int (4 : Int32)), (.int c)]) (rest := [(.ref a442), (.ref a442)]) A445 (hw _ (List.mem_of_getElem? (i := 102) rfl)) (hw _ (List.mem_of_getElem? (i := 103) rfl)) (hw _ (List.mem_of_getElem? (i := 2) rfl)) (hw _ (List.mem_of_getElem? (i := 104) rfl)) (by decide) (own_payW (rm_pre4 l Z a0 hw zc dA uA c h441 n0 A445.old hEL SC hz SD SU hc0 hc1 hnc) (hw _ (List.mem_of_getElem? (i := 104) rfl)) (hw _ (List.mem_of_getElem? (i := 2) rfl)) (by decide) (by decide)) (fun _ z => nomatch z) (Nat.le_of_eq rfl) own_pd1 rfl rfl rfl at_97 (by decide) (by decide) ?_
        rintro v457 T458 h459 A460 ⟨b451, k452, rfl, g453, g454, K455, V456⟩
        show own_Run p e below Q m T458 100 #[.val (.int i0), .val (.int i1), .val (.int i2), .val (.int i3), .val (.int (i0 &&& (3 : Int32))), .val (.int c), .unset, .unset, .val (.int (4 : Int32)), .unset, .unset] [(.ref b451), (.ref a442), (.ref a442)]
        have f461 : Exa Z h459 a442 "java/lang/String" := X447.keep K455
        have f462 : Fld Z h459 a442 "java/lang/String" "value" "[B" .null := f449.keep K455 nin0
        have f463 : Fld Z h459 a442 "java/lang/String" "coder" "B" (.int (0 : Int32)) := f450.keep K455 nin0
        refine own_special (q := 103) (W := 1) (argsL := [(.ref b451)]) (rest := [(.ref a442)]) A460 rfl (hw _ (List.mem_of_getElem? (i := 9) rfl)) (hw _ (List.mem_of_getElem? (i := 10) rfl)) (hw _ (List.mem_of_getElem? (i := 11) rfl)) (by decide) (own_payV (cs := [(114 : Int32), (101 : Int32), (100 : Int32), (105 : Int32)]) (bs := _) (n := 4) (N := 4) (kI := 4) (own_wV hw) (hw _ (List.mem_of_getElem? (i := 7) rfl)) A460.old g444 f461 f462 f463 V456 SC hz rfl rfl (by decide) (by decide) (own_fc (by decide) (own_fc (by decide) (own_fc (by decide) (own_fc (by decide) (fun _ z => nomatch z))))) rfl (by decide) (by decide)) (by simp) (Nat.le_of_eq rfl) own_pd8 rfl rfl rfl at_100 (by decide) (by decide) ?_
        rintro v473 T474 h475 A476 ⟨rfl, K464, E465, C466, t467, k468, g469, g470, V471, K472⟩
        show own_Run p e below Q m T474 103 #[.val (.int i0), .val (.int i1), .val (.int i2), .val (.int i3), .val (.int (i0 &&& (3 : Int32))), .val (.int c), .unset, .unset, .val (.int (4 : Int32)), .unset, .unset] [(.ref a442)]
        refine own_astore (q := 105) (L' := #[.val (.int i0), .val (.int i1), .val (.int i2), .val (.int i3), .val (.int (i0 &&& (3 : Int32))), .val (.int c), .val (.ref a442), .unset, .val (.int (4 : Int32)), .unset, .unset]) A476 at_103 rfl rfl ?_
        refine own_iload (q := 107) (v := (4 : Int32)) A476 at_105 rfl ?_
        refine own_bipush (q := 109) A476 (9 : Int32) at_107 rfl ?_
        refine own_icmpT (q := 116) A476 at_109 (show ¬ (4 : Int32) = (9 : Int32) from by decide) ?_
        refine own_iconst (q := 117) A476 (0 : Int32) at_116 rfl ?_
        refine own_istore (q := 119) (L' := #[.val (.int i0), .val (.int i1), .val (.int i2), .val (.int i3), .val (.int (i0 &&& (3 : Int32))), .val (.int c), .val (.ref a442), .val (.int (0 : Int32)), .val (.int (4 : Int32)), .unset, .unset]) A476 at_117 rfl ?_
        refine own_goto (q := 232) A476 at_119 ?_
        exact rm_tail0 l Z a0 hw zc dA uA a442 t467 k468 [(114 : Int32), (101 : Int32), (100 : Int32), (105 : Int32)] 4 _ h475 n0 hEL SC hz SD SU E465 V471 C466 K472 (own_cod [(114 : Int32), (101 : Int32), (100 : Int32), (105 : Int32)] (n := 4) rfl (fun yy hy => ((show ∀ yy ∈ [(114 : Int32), (101 : Int32), (100 : Int32), (105 : Int32)], ¬ yy < 0 ∧ ¬ (255 : Int32) < yy from (own_fc (by decide) (own_fc (by decide) (own_fc (by decide) (own_fc (by decide) (fun _ z => nomatch z)))))) yy hy).2) rfl rfl) (own_b16 (own_fc (by decide) (own_fc (by decide) (own_fc (by decide) (own_fc (by decide) (fun _ z => nomatch z)))))) (Nat.le_of_ble_eq_true rfl) (fun q => absurd (show (4 : Nat) = 9 from congrArg List.length q) (by decide)) (Or.inr (Or.inl ⟨_, rfl⟩)) (Or.inl rfl) hQ (A476.up (by decide) (by decide))
      · rw [qk]
        refine own_istore (q := 89) (L' := #[.val (.int i0), .val (.int i1), .val (.int i2), .val (.int i3), .val (.int (i0 &&& (3 : Int32))), .val (.int c), .unset, .unset, .val (.int (5 : Int32)), .unset, .unset]) A0 at_87 rfl ?_
        refine own_newO (q := 92) A0 (hw _ (List.mem_of_getElem? (i := 6) rfl)) (hw _ (List.mem_of_getElem? (i := 7) rfl)) (hw _ (List.mem_of_getElem? (i := 8) rfl)) at_89 (by decide) (by decide) ?_
        intro T477 h478 a479 g480 g481 A482 E483 X484 D485
        have f486 : Fld Z h478 a479 "java/lang/String" "value" "[B" .null := D485 (Or.inr (hw _ (List.mem_of_getElem? (i := 34) rfl))) (ty := (.array .byte)) (by decide)
        have f487 : Fld Z h478 a479 "java/lang/String" "coder" "B" (.int (0 : Int32)) := D485 (Or.inr (hw _ (List.mem_of_getElem? (i := 32) rfl))) (ty := .byte) (by decide)
        refine own_dup (q := 93) A482 at_92 rfl ?_
        refine own_iload (q := 95) (v := (5 : Int32)) A482 at_93 rfl ?_
        refine own_iload (q := 97) (v := c) A482 at_95 rfl ?_
        refine own_staticW (q := 100) (W := 2) (argsL := [(.int (5 : Int32)), (.int c)]) (rest := [(.ref a479), (.ref a479)]) A482 (hw _ (List.mem_of_getElem? (i := 102) rfl)) (hw _ (List.mem_of_getElem? (i := 103) rfl)) (hw _ (List.mem_of_getElem? (i := 2) rfl)) (hw _ (List.mem_of_getElem? (i := 104) rfl)) (by decide) (own_payW (rm_pre5 l Z a0 hw zc dA uA c h478 n0 A482.old hEL SC hz SD SU hc0 hc1 hnc) (hw _ (List.mem_of_getElem? (i := 104) rfl)) (hw _ (List.mem_of_getElem? (i := 2) rfl)) (by decide) (by decide)) (fun _ z => nomatch z) (Nat.le_of_eq rfl) own_pd1 rfl rfl rfl at_97 (by decide) (by decide) ?_
        rintro v494 T495 h496 A497 ⟨b488, k489, rfl, g490, g491, K492, V493⟩
        show own_Run p e below Q m T495 100 #[.val (.int i0), .val (.int i1), .val (.int i2), .val (.int i3), .val (.int (i0 &&& (3 : Int32))), .val (.int c), .unset, .unset, .val (.int (5 : Int32)), .unset, .unset] [(.ref b488), (.ref a479), (.ref a479)]
        have f498 : Exa Z h496 a479 "java/lang/String" := X484.keep K492
        have f499 : Fld Z h496 a479 "java/lang/String" "value" "[B" .null := f486.keep K492 nin0
        have f500 : Fld Z h496 a479 "java/lang/String" "coder" "B" (.int (0 : Int32)) := f487.keep K492 nin0
        refine own_special (q := 103) (W := 1) (argsL := [(.ref b488)]) (rest := [(.ref a479)]) A497 rfl (hw _ (List.mem_of_getElem? (i := 9) rfl)) (hw _ (List.mem_of_getElem? (i := 10) rfl)) (hw _ (List.mem_of_getElem? (i := 11) rfl)) (by decide) (own_payV (cs := [(114 : Int32), (101 : Int32), (100 : Int32), (105 : Int32), (114 : Int32)]) (bs := _) (n := 5) (N := 5) (kI := 4) (own_wV hw) (hw _ (List.mem_of_getElem? (i := 7) rfl)) A497.old g481 f498 f499 f500 V493 SC hz rfl rfl (by decide) (by decide) (own_fc (by decide) (own_fc (by decide) (own_fc (by decide) (own_fc (by decide) (own_fc (by decide) (fun _ z => nomatch z)))))) rfl (by decide) (by decide)) (by simp) (Nat.le_of_eq rfl) own_pd8 rfl rfl rfl at_100 (by decide) (by decide) ?_
        rintro v510 T511 h512 A513 ⟨rfl, K501, E502, C503, t504, k505, g506, g507, V508, K509⟩
        show own_Run p e below Q m T511 103 #[.val (.int i0), .val (.int i1), .val (.int i2), .val (.int i3), .val (.int (i0 &&& (3 : Int32))), .val (.int c), .unset, .unset, .val (.int (5 : Int32)), .unset, .unset] [(.ref a479)]
        refine own_astore (q := 105) (L' := #[.val (.int i0), .val (.int i1), .val (.int i2), .val (.int i3), .val (.int (i0 &&& (3 : Int32))), .val (.int c), .val (.ref a479), .unset, .val (.int (5 : Int32)), .unset, .unset]) A513 at_103 rfl rfl ?_
        refine own_iload (q := 107) (v := (5 : Int32)) A513 at_105 rfl ?_
        refine own_bipush (q := 109) A513 (9 : Int32) at_107 rfl ?_
        refine own_icmpT (q := 116) A513 at_109 (show ¬ (5 : Int32) = (9 : Int32) from by decide) ?_
        refine own_iconst (q := 117) A513 (0 : Int32) at_116 rfl ?_
        refine own_istore (q := 119) (L' := #[.val (.int i0), .val (.int i1), .val (.int i2), .val (.int i3), .val (.int (i0 &&& (3 : Int32))), .val (.int c), .val (.ref a479), .val (.int (0 : Int32)), .val (.int (5 : Int32)), .unset, .unset]) A513 at_117 rfl ?_
        refine own_goto (q := 232) A513 at_119 ?_
        exact rm_tail0 l Z a0 hw zc dA uA a479 t504 k505 [(114 : Int32), (101 : Int32), (100 : Int32), (105 : Int32), (114 : Int32)] 5 _ h512 n0 hEL SC hz SD SU E502 V508 C503 K509 (own_cod [(114 : Int32), (101 : Int32), (100 : Int32), (105 : Int32), (114 : Int32)] (n := 5) rfl (fun yy hy => ((show ∀ yy ∈ [(114 : Int32), (101 : Int32), (100 : Int32), (105 : Int32), (114 : Int32)], ¬ yy < 0 ∧ ¬ (255 : Int32) < yy from (own_fc (by decide) (own_fc (by decide) (own_fc (by decide) (own_fc (by decide) (own_fc (by decide) (fun _ z => nomatch z))))))) yy hy).2) rfl rfl) (own_b16 (own_fc (by decide) (own_fc (by decide) (own_fc (by decide) (own_fc (by decide) (own_fc (by decide) (fun _ z => nomatch z))))))) (Nat.le_of_ble_eq_true rfl) (fun q => absurd (show (5 : Nat) = 9 from congrArg List.length q) (by decide)) (Or.inr (Or.inl ⟨_, rfl⟩)) (Or.inl rfl) hQ (A513.up (by decide) (by decide))
      · rw [qk]
        refine own_istore (q := 89) (L' := #[.val (.int i0), .val (.int i1), .val (.int i2), .val (.int i3), .val (.int (i0 &&& (3 : Int32))), .val (.int c), .unset, .unset, .val (.int (6 : Int32)), .unset, .unset]) A0 at_87 rfl ?_
        refine own_newO (q := 92) A0 (hw _ (List.mem_of_getElem? (i := 6) rfl)) (hw _ (List.mem_of_getElem? (i := 7) rfl)) (hw _ (List.mem_of_getElem? (i := 8) rfl)) at_89 (by decide) (by decide) ?_
        intro T514 h515 a516 g517 g518 A519 E520 X521 D522
        have f523 : Fld Z h515 a516 "java/lang/String" "value" "[B" .null := D522 (Or.inr (hw _ (List.mem_of_getElem? (i := 34) rfl))) (ty := (.array .byte)) (by decide)
        have f524 : Fld Z h515 a516 "java/lang/String" "coder" "B" (.int (0 : Int32)) := D522 (Or.inr (hw _ (List.mem_of_getElem? (i := 32) rfl))) (ty := .byte) (by decide)
        refine own_dup (q := 93) A519 at_92 rfl ?_
        refine own_iload (q := 95) (v := (6 : Int32)) A519 at_93 rfl ?_
        refine own_iload (q := 97) (v := c) A519 at_95 rfl ?_
        refine own_staticW (q := 100) (W := 2) (argsL := [(.int (6 : Int32)), (.int c)]) (rest := [(.ref a516), (.ref a516)]) A519 (hw _ (List.mem_of_getElem? (i := 102) rfl)) (hw _ (List.mem_of_getElem? (i := 103) rfl)) (hw _ (List.mem_of_getElem? (i := 2) rfl)) (hw _ (List.mem_of_getElem? (i := 104) rfl)) (by decide) (own_payW (rm_pre6 l Z a0 hw zc dA uA c h515 n0 A519.old hEL SC hz SD SU hc0 hc1 hnc) (hw _ (List.mem_of_getElem? (i := 104) rfl)) (hw _ (List.mem_of_getElem? (i := 2) rfl)) (by decide) (by decide)) (fun _ z => nomatch z) (Nat.le_of_eq rfl) own_pd1 rfl rfl rfl at_97 (by decide) (by decide) ?_
        rintro v531 T532 h533 A534 ⟨b525, k526, rfl, g527, g528, K529, V530⟩
        show own_Run p e below Q m T532 100 #[.val (.int i0), .val (.int i1), .val (.int i2), .val (.int i3), .val (.int (i0 &&& (3 : Int32))), .val (.int c), .unset, .unset, .val (.int (6 : Int32)), .unset, .unset] [(.ref b525), (.ref a516), (.ref a516)]
        have f535 : Exa Z h533 a516 "java/lang/String" := X521.keep K529
        have f536 : Fld Z h533 a516 "java/lang/String" "value" "[B" .null := f523.keep K529 nin0
        have f537 : Fld Z h533 a516 "java/lang/String" "coder" "B" (.int (0 : Int32)) := f524.keep K529 nin0
        refine own_special (q := 103) (W := 1) (argsL := [(.ref b525)]) (rest := [(.ref a516)]) A534 rfl (hw _ (List.mem_of_getElem? (i := 9) rfl)) (hw _ (List.mem_of_getElem? (i := 10) rfl)) (hw _ (List.mem_of_getElem? (i := 11) rfl)) (by decide) (own_payV (cs := [(114 : Int32), (101 : Int32), (100 : Int32), (105 : Int32), (114 : Int32), (101 : Int32)]) (bs := _) (n := 6) (N := 6) (kI := 4) (own_wV hw) (hw _ (List.mem_of_getElem? (i := 7) rfl)) A534.old g518 f535 f536 f537 V530 SC hz rfl rfl (by decide) (by decide) (own_fc (by decide) (own_fc (by decide) (own_fc (by decide) (own_fc (by decide) (own_fc (by decide) (own_fc (by decide) (fun _ z => nomatch z))))))) rfl (by decide) (by decide)) (by simp) (Nat.le_of_eq rfl) own_pd8 rfl rfl rfl at_100 (by decide) (by decide) ?_
        rintro v547 T548 h549 A550 ⟨rfl, K538, E539, C540, t541, k542, g543, g544, V545, K546⟩
        show own_Run p e below Q m T548 103 #[.val (.int i0), .val (.int i1), .val (.int i2), .val (.int i3), .val (.int (i0 &&& (3 : Int32))), .val (.int c), .unset, .unset, .val (.int (6 : Int32)), .unset, .unset] [(.ref a516)]
        refine own_astore (q := 105) (L' := #[.val (.int i0), .val (.int i1), .val (.int i2), .val (.int i3), .val (.int (i0 &&& (3 : Int32))), .val (.int c), .val (.ref a516), .unset, .val (.int (6 : Int32)), .unset, .unset]) A550 at_103 rfl rfl ?_
        refine own_iload (q := 107) (v := (6 : Int32)) A550 at_105 rfl ?_
        refine own_bipush (q := 109) A550 (9 : Int32) at_107 rfl ?_
        refine own_icmpT (q := 116) A550 at_109 (show ¬ (6 : Int32) = (9 : Int32) from by decide) ?_
        refine own_iconst (q := 117) A550 (0 : Int32) at_116 rfl ?_
        refine own_istore (q := 119) (L' := #[.val (.int i0), .val (.int i1), .val (.int i2), .val (.int i3), .val (.int (i0 &&& (3 : Int32))), .val (.int c), .val (.ref a516), .val (.int (0 : Int32)), .val (.int (6 : Int32)), .unset, .unset]) A550 at_117 rfl ?_
        refine own_goto (q := 232) A550 at_119 ?_
        exact rm_tail0 l Z a0 hw zc dA uA a516 t541 k542 [(114 : Int32), (101 : Int32), (100 : Int32), (105 : Int32), (114 : Int32), (101 : Int32)] 6 _ h549 n0 hEL SC hz SD SU E539 V545 C540 K546 (own_cod [(114 : Int32), (101 : Int32), (100 : Int32), (105 : Int32), (114 : Int32), (101 : Int32)] (n := 6) rfl (fun yy hy => ((show ∀ yy ∈ [(114 : Int32), (101 : Int32), (100 : Int32), (105 : Int32), (114 : Int32), (101 : Int32)], ¬ yy < 0 ∧ ¬ (255 : Int32) < yy from (own_fc (by decide) (own_fc (by decide) (own_fc (by decide) (own_fc (by decide) (own_fc (by decide) (own_fc (by decide) (fun _ z => nomatch z)))))))) yy hy).2) rfl rfl) (own_b16 (own_fc (by decide) (own_fc (by decide) (own_fc (by decide) (own_fc (by decide) (own_fc (by decide) (own_fc (by decide) (fun _ z => nomatch z)))))))) (Nat.le_of_ble_eq_true rfl) (fun q => absurd (show (6 : Nat) = 9 from congrArg List.length q) (by decide)) (Or.inr (Or.inl ⟨_, rfl⟩)) (Or.inl rfl) hQ (A550.up (by decide) (by decide))
      · rw [qk]
        refine own_istore (q := 89) (L' := #[.val (.int i0), .val (.int i1), .val (.int i2), .val (.int i3), .val (.int (i0 &&& (3 : Int32))), .val (.int c), .unset, .unset, .val (.int (7 : Int32)), .unset, .unset]) A0 at_87 rfl ?_
        refine own_newO (q := 92) A0 (hw _ (List.mem_of_getElem? (i := 6) rfl)) (hw _ (List.mem_of_getElem? (i := 7) rfl)) (hw _ (List.mem_of_getElem? (i := 8) rfl)) at_89 (by decide) (by decide) ?_
        intro T551 h552 a553 g554 g555 A556 E557 X558 D559
        have f560 : Fld Z h552 a553 "java/lang/String" "value" "[B" .null := D559 (Or.inr (hw _ (List.mem_of_getElem? (i := 34) rfl))) (ty := (.array .byte)) (by decide)
        have f561 : Fld Z h552 a553 "java/lang/String" "coder" "B" (.int (0 : Int32)) := D559 (Or.inr (hw _ (List.mem_of_getElem? (i := 32) rfl))) (ty := .byte) (by decide)
        refine own_dup (q := 93) A556 at_92 rfl ?_
        refine own_iload (q := 95) (v := (7 : Int32)) A556 at_93 rfl ?_
        refine own_iload (q := 97) (v := c) A556 at_95 rfl ?_
        refine own_staticW (q := 100) (W := 2) (argsL := [(.int (7 : Int32)), (.int c)]) (rest := [(.ref a553), (.ref a553)]) A556 (hw _ (List.mem_of_getElem? (i := 102) rfl)) (hw _ (List.mem_of_getElem? (i := 103) rfl)) (hw _ (List.mem_of_getElem? (i := 2) rfl)) (hw _ (List.mem_of_getElem? (i := 104) rfl)) (by decide) (own_payW (rm_pre7 l Z a0 hw zc dA uA c h552 n0 A556.old hEL SC hz SD SU hc0 hc1 hnc) (hw _ (List.mem_of_getElem? (i := 104) rfl)) (hw _ (List.mem_of_getElem? (i := 2) rfl)) (by decide) (by decide)) (fun _ z => nomatch z) (Nat.le_of_eq rfl) own_pd1 rfl rfl rfl at_97 (by decide) (by decide) ?_
        rintro v568 T569 h570 A571 ⟨b562, k563, rfl, g564, g565, K566, V567⟩
        show own_Run p e below Q m T569 100 #[.val (.int i0), .val (.int i1), .val (.int i2), .val (.int i3), .val (.int (i0 &&& (3 : Int32))), .val (.int c), .unset, .unset, .val (.int (7 : Int32)), .unset, .unset] [(.ref b562), (.ref a553), (.ref a553)]
        have f572 : Exa Z h570 a553 "java/lang/String" := X558.keep K566
        have f573 : Fld Z h570 a553 "java/lang/String" "value" "[B" .null := f560.keep K566 nin0
        have f574 : Fld Z h570 a553 "java/lang/String" "coder" "B" (.int (0 : Int32)) := f561.keep K566 nin0
        refine own_special (q := 103) (W := 1) (argsL := [(.ref b562)]) (rest := [(.ref a553)]) A571 rfl (hw _ (List.mem_of_getElem? (i := 9) rfl)) (hw _ (List.mem_of_getElem? (i := 10) rfl)) (hw _ (List.mem_of_getElem? (i := 11) rfl)) (by decide) (own_payV (cs := [(114 : Int32), (101 : Int32), (100 : Int32), (105 : Int32), (114 : Int32), (101 : Int32), (99 : Int32)]) (bs := _) (n := 7) (N := 7) (kI := 4) (own_wV hw) (hw _ (List.mem_of_getElem? (i := 7) rfl)) A571.old g555 f572 f573 f574 V567 SC hz rfl rfl (by decide) (by decide) (own_fc (by decide) (own_fc (by decide) (own_fc (by decide) (own_fc (by decide) (own_fc (by decide) (own_fc (by decide) (own_fc (by decide) (fun _ z => nomatch z)))))))) rfl (by decide) (by decide)) (by simp) (Nat.le_of_eq rfl) own_pd8 rfl rfl rfl at_100 (by decide) (by decide) ?_
        rintro v584 T585 h586 A587 ⟨rfl, K575, E576, C577, t578, k579, g580, g581, V582, K583⟩
        show own_Run p e below Q m T585 103 #[.val (.int i0), .val (.int i1), .val (.int i2), .val (.int i3), .val (.int (i0 &&& (3 : Int32))), .val (.int c), .unset, .unset, .val (.int (7 : Int32)), .unset, .unset] [(.ref a553)]
        refine own_astore (q := 105) (L' := #[.val (.int i0), .val (.int i1), .val (.int i2), .val (.int i3), .val (.int (i0 &&& (3 : Int32))), .val (.int c), .val (.ref a553), .unset, .val (.int (7 : Int32)), .unset, .unset]) A587 at_103 rfl rfl ?_
        refine own_iload (q := 107) (v := (7 : Int32)) A587 at_105 rfl ?_
        refine own_bipush (q := 109) A587 (9 : Int32) at_107 rfl ?_
        refine own_icmpT (q := 116) A587 at_109 (show ¬ (7 : Int32) = (9 : Int32) from by decide) ?_
        refine own_iconst (q := 117) A587 (0 : Int32) at_116 rfl ?_
        refine own_istore (q := 119) (L' := #[.val (.int i0), .val (.int i1), .val (.int i2), .val (.int i3), .val (.int (i0 &&& (3 : Int32))), .val (.int c), .val (.ref a553), .val (.int (0 : Int32)), .val (.int (7 : Int32)), .unset, .unset]) A587 at_117 rfl ?_
        refine own_goto (q := 232) A587 at_119 ?_
        exact rm_tail0 l Z a0 hw zc dA uA a553 t578 k579 [(114 : Int32), (101 : Int32), (100 : Int32), (105 : Int32), (114 : Int32), (101 : Int32), (99 : Int32)] 7 _ h586 n0 hEL SC hz SD SU E576 V582 C577 K583 (own_cod [(114 : Int32), (101 : Int32), (100 : Int32), (105 : Int32), (114 : Int32), (101 : Int32), (99 : Int32)] (n := 7) rfl (fun yy hy => ((show ∀ yy ∈ [(114 : Int32), (101 : Int32), (100 : Int32), (105 : Int32), (114 : Int32), (101 : Int32), (99 : Int32)], ¬ yy < 0 ∧ ¬ (255 : Int32) < yy from (own_fc (by decide) (own_fc (by decide) (own_fc (by decide) (own_fc (by decide) (own_fc (by decide) (own_fc (by decide) (own_fc (by decide) (fun _ z => nomatch z))))))))) yy hy).2) rfl rfl) (own_b16 (own_fc (by decide) (own_fc (by decide) (own_fc (by decide) (own_fc (by decide) (own_fc (by decide) (own_fc (by decide) (own_fc (by decide) (fun _ z => nomatch z))))))))) (Nat.le_of_ble_eq_true rfl) (fun q => absurd (show (7 : Nat) = 9 from congrArg List.length q) (by decide)) (Or.inr (Or.inl ⟨_, rfl⟩)) (Or.inl rfl) hQ (A587.up (by decide) (by decide))
      · rw [qk]
        refine own_istore (q := 89) (L' := #[.val (.int i0), .val (.int i1), .val (.int i2), .val (.int i3), .val (.int (i0 &&& (3 : Int32))), .val (.int c), .unset, .unset, .val (.int (8 : Int32)), .unset, .unset]) A0 at_87 rfl ?_
        refine own_newO (q := 92) A0 (hw _ (List.mem_of_getElem? (i := 6) rfl)) (hw _ (List.mem_of_getElem? (i := 7) rfl)) (hw _ (List.mem_of_getElem? (i := 8) rfl)) at_89 (by decide) (by decide) ?_
        intro T588 h589 a590 g591 g592 A593 E594 X595 D596
        have f597 : Fld Z h589 a590 "java/lang/String" "value" "[B" .null := D596 (Or.inr (hw _ (List.mem_of_getElem? (i := 34) rfl))) (ty := (.array .byte)) (by decide)
        have f598 : Fld Z h589 a590 "java/lang/String" "coder" "B" (.int (0 : Int32)) := D596 (Or.inr (hw _ (List.mem_of_getElem? (i := 32) rfl))) (ty := .byte) (by decide)
        refine own_dup (q := 93) A593 at_92 rfl ?_
        refine own_iload (q := 95) (v := (8 : Int32)) A593 at_93 rfl ?_
        refine own_iload (q := 97) (v := c) A593 at_95 rfl ?_
        refine own_staticW (q := 100) (W := 2) (argsL := [(.int (8 : Int32)), (.int c)]) (rest := [(.ref a590), (.ref a590)]) A593 (hw _ (List.mem_of_getElem? (i := 102) rfl)) (hw _ (List.mem_of_getElem? (i := 103) rfl)) (hw _ (List.mem_of_getElem? (i := 2) rfl)) (hw _ (List.mem_of_getElem? (i := 104) rfl)) (by decide) (own_payW (rm_pre8 l Z a0 hw zc dA uA c h589 n0 A593.old hEL SC hz SD SU hc0 hc1 hnc) (hw _ (List.mem_of_getElem? (i := 104) rfl)) (hw _ (List.mem_of_getElem? (i := 2) rfl)) (by decide) (by decide)) (fun _ z => nomatch z) (Nat.le_of_eq rfl) own_pd1 rfl rfl rfl at_97 (by decide) (by decide) ?_
        rintro v605 T606 h607 A608 ⟨b599, k600, rfl, g601, g602, K603, V604⟩
        show own_Run p e below Q m T606 100 #[.val (.int i0), .val (.int i1), .val (.int i2), .val (.int i3), .val (.int (i0 &&& (3 : Int32))), .val (.int c), .unset, .unset, .val (.int (8 : Int32)), .unset, .unset] [(.ref b599), (.ref a590), (.ref a590)]
        have f609 : Exa Z h607 a590 "java/lang/String" := X595.keep K603
        have f610 : Fld Z h607 a590 "java/lang/String" "value" "[B" .null := f597.keep K603 nin0
        have f611 : Fld Z h607 a590 "java/lang/String" "coder" "B" (.int (0 : Int32)) := f598.keep K603 nin0
        refine own_special (q := 103) (W := 1) (argsL := [(.ref b599)]) (rest := [(.ref a590)]) A608 rfl (hw _ (List.mem_of_getElem? (i := 9) rfl)) (hw _ (List.mem_of_getElem? (i := 10) rfl)) (hw _ (List.mem_of_getElem? (i := 11) rfl)) (by decide) (own_payV (cs := [(114 : Int32), (101 : Int32), (100 : Int32), (105 : Int32), (114 : Int32), (101 : Int32), (99 : Int32), (116 : Int32)]) (bs := _) (n := 8) (N := 8) (kI := 4) (own_wV hw) (hw _ (List.mem_of_getElem? (i := 7) rfl)) A608.old g592 f609 f610 f611 V604 SC hz rfl rfl (by decide) (by decide) (own_fc (by decide) (own_fc (by decide) (own_fc (by decide) (own_fc (by decide) (own_fc (by decide) (own_fc (by decide) (own_fc (by decide) (own_fc (by decide) (fun _ z => nomatch z))))))))) rfl (by decide) (by decide)) (by simp) (Nat.le_of_eq rfl) own_pd8 rfl rfl rfl at_100 (by decide) (by decide) ?_
        rintro v621 T622 h623 A624 ⟨rfl, K612, E613, C614, t615, k616, g617, g618, V619, K620⟩
        show own_Run p e below Q m T622 103 #[.val (.int i0), .val (.int i1), .val (.int i2), .val (.int i3), .val (.int (i0 &&& (3 : Int32))), .val (.int c), .unset, .unset, .val (.int (8 : Int32)), .unset, .unset] [(.ref a590)]
        refine own_astore (q := 105) (L' := #[.val (.int i0), .val (.int i1), .val (.int i2), .val (.int i3), .val (.int (i0 &&& (3 : Int32))), .val (.int c), .val (.ref a590), .unset, .val (.int (8 : Int32)), .unset, .unset]) A624 at_103 rfl rfl ?_
        refine own_iload (q := 107) (v := (8 : Int32)) A624 at_105 rfl ?_
        refine own_bipush (q := 109) A624 (9 : Int32) at_107 rfl ?_
        refine own_icmpT (q := 116) A624 at_109 (show ¬ (8 : Int32) = (9 : Int32) from by decide) ?_
        refine own_iconst (q := 117) A624 (0 : Int32) at_116 rfl ?_
        refine own_istore (q := 119) (L' := #[.val (.int i0), .val (.int i1), .val (.int i2), .val (.int i3), .val (.int (i0 &&& (3 : Int32))), .val (.int c), .val (.ref a590), .val (.int (0 : Int32)), .val (.int (8 : Int32)), .unset, .unset]) A624 at_117 rfl ?_
        refine own_goto (q := 232) A624 at_119 ?_
        exact rm_tail0 l Z a0 hw zc dA uA a590 t615 k616 [(114 : Int32), (101 : Int32), (100 : Int32), (105 : Int32), (114 : Int32), (101 : Int32), (99 : Int32), (116 : Int32)] 8 _ h623 n0 hEL SC hz SD SU E613 V619 C614 K620 (own_cod [(114 : Int32), (101 : Int32), (100 : Int32), (105 : Int32), (114 : Int32), (101 : Int32), (99 : Int32), (116 : Int32)] (n := 8) rfl (fun yy hy => ((show ∀ yy ∈ [(114 : Int32), (101 : Int32), (100 : Int32), (105 : Int32), (114 : Int32), (101 : Int32), (99 : Int32), (116 : Int32)], ¬ yy < 0 ∧ ¬ (255 : Int32) < yy from (own_fc (by decide) (own_fc (by decide) (own_fc (by decide) (own_fc (by decide) (own_fc (by decide) (own_fc (by decide) (own_fc (by decide) (own_fc (by decide) (fun _ z => nomatch z)))))))))) yy hy).2) rfl rfl) (own_b16 (own_fc (by decide) (own_fc (by decide) (own_fc (by decide) (own_fc (by decide) (own_fc (by decide) (own_fc (by decide) (own_fc (by decide) (own_fc (by decide) (fun _ z => nomatch z)))))))))) (Nat.le_of_ble_eq_true rfl) (fun q => absurd (show (8 : Nat) = 9 from congrArg List.length q) (by decide)) (Or.inr (Or.inl ⟨_, rfl⟩)) (Or.inl rfl) hQ (A624.up (by decide) (by decide))
      · rw [qk]
        refine own_istore (q := 89) (L' := #[.val (.int i0), .val (.int i1), .val (.int i2), .val (.int i3), .val (.int (i0 &&& (3 : Int32))), .val (.int c), .unset, .unset, .val (.int (9 : Int32)), .unset, .unset]) A0 at_87 rfl ?_
        refine own_newO (q := 92) A0 (hw _ (List.mem_of_getElem? (i := 6) rfl)) (hw _ (List.mem_of_getElem? (i := 7) rfl)) (hw _ (List.mem_of_getElem? (i := 8) rfl)) at_89 (by decide) (by decide) ?_
        intro T625 h626 a627 g628 g629 A630 E631 X632 D633
        have f634 : Fld Z h626 a627 "java/lang/String" "value" "[B" .null := D633 (Or.inr (hw _ (List.mem_of_getElem? (i := 34) rfl))) (ty := (.array .byte)) (by decide)
        have f635 : Fld Z h626 a627 "java/lang/String" "coder" "B" (.int (0 : Int32)) := D633 (Or.inr (hw _ (List.mem_of_getElem? (i := 32) rfl))) (ty := .byte) (by decide)
        refine own_dup (q := 93) A630 at_92 rfl ?_
        refine own_iload (q := 95) (v := (9 : Int32)) A630 at_93 rfl ?_
        refine own_iload (q := 97) (v := c) A630 at_95 rfl ?_
        refine own_staticW (q := 100) (W := 2) (argsL := [(.int (9 : Int32)), (.int c)]) (rest := [(.ref a627), (.ref a627)]) A630 (hw _ (List.mem_of_getElem? (i := 102) rfl)) (hw _ (List.mem_of_getElem? (i := 103) rfl)) (hw _ (List.mem_of_getElem? (i := 2) rfl)) (hw _ (List.mem_of_getElem? (i := 104) rfl)) (by decide) (own_payW (rm_pre9 l Z a0 hw zc dA uA c h626 n0 A630.old hEL SC hz SD SU hc0 hc1 hnc) (hw _ (List.mem_of_getElem? (i := 104) rfl)) (hw _ (List.mem_of_getElem? (i := 2) rfl)) (by decide) (by decide)) (fun _ z => nomatch z) (Nat.le_of_eq rfl) own_pd1 rfl rfl rfl at_97 (by decide) (by decide) ?_
        rintro v642 T643 h644 A645 ⟨b636, k637, rfl, g638, g639, K640, V641⟩
        show own_Run p e below Q m T643 100 #[.val (.int i0), .val (.int i1), .val (.int i2), .val (.int i3), .val (.int (i0 &&& (3 : Int32))), .val (.int c), .unset, .unset, .val (.int (9 : Int32)), .unset, .unset] [(.ref b636), (.ref a627), (.ref a627)]
        have f646 : Exa Z h644 a627 "java/lang/String" := X632.keep K640
        have f647 : Fld Z h644 a627 "java/lang/String" "value" "[B" .null := f634.keep K640 nin0
        have f648 : Fld Z h644 a627 "java/lang/String" "coder" "B" (.int (0 : Int32)) := f635.keep K640 nin0
        refine own_special (q := 103) (W := 1) (argsL := [(.ref b636)]) (rest := [(.ref a627)]) A645 rfl (hw _ (List.mem_of_getElem? (i := 9) rfl)) (hw _ (List.mem_of_getElem? (i := 10) rfl)) (hw _ (List.mem_of_getElem? (i := 11) rfl)) (by decide) (own_payV (cs := [(114 : Int32), (101 : Int32), (100 : Int32), (105 : Int32), (114 : Int32), (101 : Int32), (99 : Int32), (116 : Int32), (115 : Int32)]) (bs := _) (n := 9) (N := 9) (kI := 4) (own_wV hw) (hw _ (List.mem_of_getElem? (i := 7) rfl)) A645.old g629 f646 f647 f648 V641 SC hz rfl rfl (by decide) (by decide) (own_fc (by decide) (own_fc (by decide) (own_fc (by decide) (own_fc (by decide) (own_fc (by decide) (own_fc (by decide) (own_fc (by decide) (own_fc (by decide) (own_fc (by decide) (fun _ z => nomatch z)))))))))) rfl (by decide) (by decide)) (by simp) (Nat.le_of_eq rfl) own_pd8 rfl rfl rfl at_100 (by decide) (by decide) ?_
        rintro v658 T659 h660 A661 ⟨rfl, K649, E650, C651, t652, k653, g654, g655, V656, K657⟩
        show own_Run p e below Q m T659 103 #[.val (.int i0), .val (.int i1), .val (.int i2), .val (.int i3), .val (.int (i0 &&& (3 : Int32))), .val (.int c), .unset, .unset, .val (.int (9 : Int32)), .unset, .unset] [(.ref a627)]
        refine own_astore (q := 105) (L' := #[.val (.int i0), .val (.int i1), .val (.int i2), .val (.int i3), .val (.int (i0 &&& (3 : Int32))), .val (.int c), .val (.ref a627), .unset, .val (.int (9 : Int32)), .unset, .unset]) A661 at_103 rfl rfl ?_
        refine own_iload (q := 107) (v := (9 : Int32)) A661 at_105 rfl ?_
        refine own_bipush (q := 109) A661 (9 : Int32) at_107 rfl ?_
        refine own_icmpF (q := 112) A661 at_109 (show (9 : Int32) = (9 : Int32) from by decide) ?_
        refine own_iconst (q := 113) A661 (1 : Int32) at_112 rfl ?_
        refine own_goto (q := 117) A661 at_113 ?_
        refine own_istore (q := 119) (L' := #[.val (.int i0), .val (.int i1), .val (.int i2), .val (.int i3), .val (.int (i0 &&& (3 : Int32))), .val (.int c), .val (.ref a627), .val (.int (1 : Int32)), .val (.int (9 : Int32)), .unset, .unset]) A661 at_117 rfl ?_
        refine own_goto (q := 232) A661 at_119 ?_
        exact rm_tail1 l Z a0 hw zc dA uA a627 t652 k653 [(114 : Int32), (101 : Int32), (100 : Int32), (105 : Int32), (114 : Int32), (101 : Int32), (99 : Int32), (116 : Int32), (115 : Int32)] 9 _ h660 n0 hEL SC hz SD SU E650 V656 C651 K657 (own_cod [(114 : Int32), (101 : Int32), (100 : Int32), (105 : Int32), (114 : Int32), (101 : Int32), (99 : Int32), (116 : Int32), (115 : Int32)] (n := 9) rfl (fun yy hy => ((show ∀ yy ∈ [(114 : Int32), (101 : Int32), (100 : Int32), (105 : Int32), (114 : Int32), (101 : Int32), (99 : Int32), (116 : Int32), (115 : Int32)], ¬ yy < 0 ∧ ¬ (255 : Int32) < yy from (own_fc (by decide) (own_fc (by decide) (own_fc (by decide) (own_fc (by decide) (own_fc (by decide) (own_fc (by decide) (own_fc (by decide) (own_fc (by decide) (own_fc (by decide) (fun _ z => nomatch z))))))))))) yy hy).2) rfl rfl) (own_b16 (own_fc (by decide) (own_fc (by decide) (own_fc (by decide) (own_fc (by decide) (own_fc (by decide) (own_fc (by decide) (own_fc (by decide) (own_fc (by decide) (own_fc (by decide) (fun _ z => nomatch z))))))))))) (Nat.le_of_ble_eq_true rfl) rfl (Or.inr (Or.inl ⟨_, rfl⟩)) (Or.inl rfl) hQ (A661.up (by decide) (by decide))
      · rw [qk]
        refine own_istore (q := 89) (L' := #[.val (.int i0), .val (.int i1), .val (.int i2), .val (.int i3), .val (.int (i0 &&& (3 : Int32))), .val (.int c), .unset, .unset, .val (.int (10 : Int32)), .unset, .unset]) A0 at_87 rfl ?_
        refine own_newO (q := 92) A0 (hw _ (List.mem_of_getElem? (i := 6) rfl)) (hw _ (List.mem_of_getElem? (i := 7) rfl)) (hw _ (List.mem_of_getElem? (i := 8) rfl)) at_89 (by decide) (by decide) ?_
        intro T662 h663 a664 g665 g666 A667 E668 X669 D670
        have f671 : Fld Z h663 a664 "java/lang/String" "value" "[B" .null := D670 (Or.inr (hw _ (List.mem_of_getElem? (i := 34) rfl))) (ty := (.array .byte)) (by decide)
        have f672 : Fld Z h663 a664 "java/lang/String" "coder" "B" (.int (0 : Int32)) := D670 (Or.inr (hw _ (List.mem_of_getElem? (i := 32) rfl))) (ty := .byte) (by decide)
        refine own_dup (q := 93) A667 at_92 rfl ?_
        refine own_iload (q := 95) (v := (10 : Int32)) A667 at_93 rfl ?_
        refine own_iload (q := 97) (v := c) A667 at_95 rfl ?_
        refine own_staticW (q := 100) (W := 2) (argsL := [(.int (10 : Int32)), (.int c)]) (rest := [(.ref a664), (.ref a664)]) A667 (hw _ (List.mem_of_getElem? (i := 102) rfl)) (hw _ (List.mem_of_getElem? (i := 103) rfl)) (hw _ (List.mem_of_getElem? (i := 2) rfl)) (hw _ (List.mem_of_getElem? (i := 104) rfl)) (by decide) (own_payW (rm_pre10 l Z a0 hw zc dA uA c h663 n0 A667.old hEL SC hz SD SU hc0 hc1 hnc) (hw _ (List.mem_of_getElem? (i := 104) rfl)) (hw _ (List.mem_of_getElem? (i := 2) rfl)) (by decide) (by decide)) (fun _ z => nomatch z) (Nat.le_of_eq rfl) own_pd1 rfl rfl rfl at_97 (by decide) (by decide) ?_
        rintro v679 T680 h681 A682 ⟨b673, k674, rfl, g675, g676, K677, V678⟩
        show own_Run p e below Q m T680 100 #[.val (.int i0), .val (.int i1), .val (.int i2), .val (.int i3), .val (.int (i0 &&& (3 : Int32))), .val (.int c), .unset, .unset, .val (.int (10 : Int32)), .unset, .unset] [(.ref b673), (.ref a664), (.ref a664)]
        have f683 : Exa Z h681 a664 "java/lang/String" := X669.keep K677
        have f684 : Fld Z h681 a664 "java/lang/String" "value" "[B" .null := f671.keep K677 nin0
        have f685 : Fld Z h681 a664 "java/lang/String" "coder" "B" (.int (0 : Int32)) := f672.keep K677 nin0
        refine own_special (q := 103) (W := 1) (argsL := [(.ref b673)]) (rest := [(.ref a664)]) A682 rfl (hw _ (List.mem_of_getElem? (i := 9) rfl)) (hw _ (List.mem_of_getElem? (i := 10) rfl)) (hw _ (List.mem_of_getElem? (i := 11) rfl)) (by decide) (own_payV (cs := [(114 : Int32), (101 : Int32), (100 : Int32), (105 : Int32), (114 : Int32), (101 : Int32), (99 : Int32), (116 : Int32), (115 : Int32), c]) (bs := _) (n := 10) (N := 10) (kI := 4) (own_wV hw) (hw _ (List.mem_of_getElem? (i := 7) rfl)) A682.old g666 f683 f684 f685 V678 SC hz rfl rfl (by decide) (by decide) (own_fc (by decide) (own_fc (by decide) (own_fc (by decide) (own_fc (by decide) (own_fc (by decide) (own_fc (by decide) (own_fc (by decide) (own_fc (by decide) (own_fc (by decide) (own_fc ⟨hc0, hc1⟩ (fun _ z => nomatch z))))))))))) rfl (by decide) (by decide)) (by simp) (Nat.le_of_eq rfl) own_pd8 rfl rfl rfl at_100 (by decide) (by decide) ?_
        rintro v695 T696 h697 A698 ⟨rfl, K686, E687, C688, t689, k690, g691, g692, V693, K694⟩
        show own_Run p e below Q m T696 103 #[.val (.int i0), .val (.int i1), .val (.int i2), .val (.int i3), .val (.int (i0 &&& (3 : Int32))), .val (.int c), .unset, .unset, .val (.int (10 : Int32)), .unset, .unset] [(.ref a664)]
        refine own_astore (q := 105) (L' := #[.val (.int i0), .val (.int i1), .val (.int i2), .val (.int i3), .val (.int (i0 &&& (3 : Int32))), .val (.int c), .val (.ref a664), .unset, .val (.int (10 : Int32)), .unset, .unset]) A698 at_103 rfl rfl ?_
        refine own_iload (q := 107) (v := (10 : Int32)) A698 at_105 rfl ?_
        refine own_bipush (q := 109) A698 (9 : Int32) at_107 rfl ?_
        refine own_icmpT (q := 116) A698 at_109 (show ¬ (10 : Int32) = (9 : Int32) from by decide) ?_
        refine own_iconst (q := 117) A698 (0 : Int32) at_116 rfl ?_
        refine own_istore (q := 119) (L' := #[.val (.int i0), .val (.int i1), .val (.int i2), .val (.int i3), .val (.int (i0 &&& (3 : Int32))), .val (.int c), .val (.ref a664), .val (.int (0 : Int32)), .val (.int (10 : Int32)), .unset, .unset]) A698 at_117 rfl ?_
        refine own_goto (q := 232) A698 at_119 ?_
        exact rm_tail0 l Z a0 hw zc dA uA a664 t689 k690 [(114 : Int32), (101 : Int32), (100 : Int32), (105 : Int32), (114 : Int32), (101 : Int32), (99 : Int32), (116 : Int32), (115 : Int32), c] 10 _ h697 n0 hEL SC hz SD SU E687 V693 C688 K694 (own_cod [(114 : Int32), (101 : Int32), (100 : Int32), (105 : Int32), (114 : Int32), (101 : Int32), (99 : Int32), (116 : Int32), (115 : Int32), c] (n := 10) rfl (fun yy hy => ((show ∀ yy ∈ [(114 : Int32), (101 : Int32), (100 : Int32), (105 : Int32), (114 : Int32), (101 : Int32), (99 : Int32), (116 : Int32), (115 : Int32), c], ¬ yy < 0 ∧ ¬ (255 : Int32) < yy from (own_fc (by decide) (own_fc (by decide) (own_fc (by decide) (own_fc (by decide) (own_fc (by decide) (own_fc (by decide) (own_fc (by decide) (own_fc (by decide) (own_fc (by decide) (own_fc ⟨hc0, hc1⟩ (fun _ z => nomatch z)))))))))))) yy hy).2) rfl rfl) (own_b16 (own_fc (by decide) (own_fc (by decide) (own_fc (by decide) (own_fc (by decide) (own_fc (by decide) (own_fc (by decide) (own_fc (by decide) (own_fc (by decide) (own_fc (by decide) (own_fc ⟨hc0, hc1⟩ (fun _ z => nomatch z)))))))))))) (Nat.le_of_ble_eq_true rfl) (fun q => absurd (show (10 : Nat) = 9 from congrArg List.length q) (by decide)) (Or.inr (Or.inl ⟨_, rfl⟩)) (Or.inl rfl) hQ (A698.up (by decide) (by decide))
  · rintro (c1 : (i0 &&& (3 : Int32)) = (0 : Int32))
    refine own_staticW (q := 21) (W := 0) (argsL := []) (rest := []) A0 (hw _ (List.mem_of_getElem? (i := 0) rfl)) (hw _ (List.mem_of_getElem? (i := 1) rfl)) (hw _ (List.mem_of_getElem? (i := 2) rfl)) (hw _ (List.mem_of_getElem? (i := 3) rfl)) (by decide) (own_payW (rm_word l Z a0 hw zc dA uA  h0 n0 A0.old hEL SC hz SD SU ) (hw _ (List.mem_of_getElem? (i := 3) rfl)) (hw _ (List.mem_of_getElem? (i := 2) rfl)) (by decide) (by decide)) (fun _ z => nomatch z) (Nat.le_of_eq rfl) own_pd0 rfl rfl rfl at_18 (by decide) (by decide) ?_
    rintro v705 T706 h707 A708 ⟨b699, k700, rfl, g701, g702, K703, V704⟩
    show own_Run p e below Q m T706 21 #[.val (.int i0), .val (.int i1), .val (.int i2), .val (.int i3), .val (.int (i0 &&& (3 : Int32))), .val (.int c), .unset, .unset, .unset, .unset, .unset] [(.ref b699)]
    refine own_astore (q := 23) (L' := #[.val (.int i0), .val (.int i1), .val (.int i2), .val (.int i3), .val (.int (i0 &&& (3 : Int32))), .val (.int c), .unset, .unset, .val (.ref b699), .unset, .unset]) A708 at_21 rfl rfl ?_
    refine own_iloadN (q := 24) (v := i1) A708 at_23 rfl ?_
    refine own_ldcI (q := 26) A708 (hw _ (List.mem_of_getElem? (i := 5) rfl)) at_24 ?_
    refine own_iand (q := 27) A708 at_26 ?_
    refine own_bipush (q := 29) A708 (9 : Int32) at_27 rfl ?_
    refine own_irem (q := 30) A708 at_29 (by decide) ?_
    rcases own_rem9 i1 with qk | qk | qk | qk | qk | qk | qk | qk | qk
    · rw [qk]
      refine own_istore (q := 32) (L' := #[.val (.int i0), .val (.int i1), .val (.int i2), .val (.int i3), .val (.int (i0 &&& (3 : Int32))), .val (.int c), .unset, .unset, .val (.ref b699), .val (.int (0 : Int32)), .unset]) A708 at_30 rfl ?_
      refine own_aload (q := 34) (v := (.ref b699)) A708 at_32 rfl rfl ?_
      refine own_iload (q := 36) (v := (0 : Int32)) A708 at_34 rfl ?_
      refine own_caloadv (q := 37) (v := (.int (114 : Int32))) A708 V704 0 (by decide) (by decide) (by decide) rfl at_36 ?_
      refine own_iload (q := 39) (v := c) A708 at_37 rfl ?_
      refine own_icmp (q := 46) (q' := 42) A708 at_39 ?_ ?_
      · rintro (c709 : ¬ (114 : Int32) = c)
        refine own_iconst (q := 47) A708 (0 : Int32) at_46 rfl ?_
        refine own_istore (q := 49) (L' := #[.val (.int i0), .val (.int i1), .val (.int i2), .val (.int i3), .val (.int (i0 &&& (3 : Int32))), .val (.int c), .unset, .unset, .val (.ref b699), .val (.int (0 : Int32)), .val (.int (0 : Int32))]) A708 at_47 rfl ?_
        refine own_aload (q := 51) (v := (.ref b699)) A708 at_49 rfl rfl ?_
        refine own_iload (q := 53) (v := (0 : Int32)) A708 at_51 rfl ?_
        refine own_iload (q := 55) (v := c) A708 at_53 rfl ?_
        refine own_stCv (q := 56) A708 V704 0 (by decide) (by decide) (by decide) (Nat.le_of_ble_eq_true rfl) g701 (Or.inr (Or.inr (Or.inr (by obtain ⟨c, q, _⟩ := V704; exact ⟨c, _, q, by decide⟩)))) at_55 ?_
        intro T710 h711 sl712 A713 W714 X715
        have f716 : Arv Z h711 b699 k700 .char (9 : Int32) [(.int (nar .char c)), (.int (101 : Int32)), (.int (100 : Int32)), (.int (105 : Int32)), (.int (114 : Int32)), (.int (101 : Int32)), (.int (99 : Int32)), (.int (116 : Int32)), (.int (115 : Int32))] (.int 0) := X715
        have f717 : Arv Z h711 b699 k700 .char (9 : Int32) [(.int c), (.int (101 : Int32)), (.int (100 : Int32)), (.int (105 : Int32)), (.int (114 : Int32)), (.int (101 : Int32)), (.int (99 : Int32)), (.int (116 : Int32)), (.int (115 : Int32))] (.int 0) := by
          have q := f716
          rw [hnc] at q
          exact q
        refine own_newO (q := 59) A713 (hw _ (List.mem_of_getElem? (i := 6) rfl)) (hw _ (List.mem_of_getElem? (i := 7) rfl)) (hw _ (List.mem_of_getElem? (i := 8) rfl)) at_56 (by decide) (by decide) ?_
        intro T718 h719 a720 g721 g722 A723 E724 X725 D726
        have z727 : b699 ≠ a720 := Nat.ne_of_lt (Nat.lt_of_lt_of_le f717.lt (Nat.le_of_eq g721))
        have f728 : Arv Z h719 b699 k700 .char (9 : Int32) [(.int c), (.int (101 : Int32)), (.int (100 : Int32)), (.int (105 : Int32)), (.int (114 : Int32)), (.int (101 : Int32)), (.int (99 : Int32)), (.int (116 : Int32)), (.int (115 : Int32))] (.int 0) := f717.ext E724
        have f729 : Fld Z h719 a720 "java/lang/String" "value" "[B" .null := D726 (Or.inr (hw _ (List.mem_of_getElem? (i := 34) rfl))) (ty := (.array .byte)) (by decide)
        have f730 : Fld Z h719 a720 "java/lang/String" "coder" "B" (.int (0 : Int32)) := D726 (Or.inr (hw _ (List.mem_of_getElem? (i := 32) rfl))) (ty := .byte) (by decide)
        refine own_dup (q := 60) A723 at_59 rfl ?_
        refine own_aload (q := 62) (v := (.ref b699)) A723 at_60 rfl rfl ?_
        refine own_special (q := 65) (W := 1) (argsL := [(.ref b699)]) (rest := [(.ref a720)]) A723 rfl (hw _ (List.mem_of_getElem? (i := 9) rfl)) (hw _ (List.mem_of_getElem? (i := 10) rfl)) (hw _ (List.mem_of_getElem? (i := 11) rfl)) (by decide) (own_payV (cs := [c, (101 : Int32), (100 : Int32), (105 : Int32), (114 : Int32), (101 : Int32), (99 : Int32), (116 : Int32), (115 : Int32)]) (bs := _) (n := 9) (N := 9) (kI := 4) (own_wV hw) (hw _ (List.mem_of_getElem? (i := 7) rfl)) A723.old g722 X725 f729 f730 f728 SC hz rfl rfl (by decide) (by decide) (own_fc ⟨hc0, hc1⟩ (own_fc (by decide) (own_fc (by decide) (own_fc (by decide) (own_fc (by decide) (own_fc (by decide) (own_fc (by decide) (own_fc (by decide) (own_fc (by decide) (fun _ z => nomatch z)))))))))) rfl (by decide) (by decide)) (by simp) (Nat.le_of_eq rfl) own_pd8 rfl rfl rfl at_62 (by decide) (by decide) ?_
        rintro v740 T741 h742 A743 ⟨rfl, K731, E732, C733, t734, k735, g736, g737, V738, K739⟩
        show own_Run p e below Q m T741 65 #[.val (.int i0), .val (.int i1), .val (.int i2), .val (.int i3), .val (.int (i0 &&& (3 : Int32))), .val (.int c), .unset, .unset, .val (.ref b699), .val (.int (0 : Int32)), .val (.int (0 : Int32))] [(.ref a720)]
        refine own_astore (q := 67) (L' := #[.val (.int i0), .val (.int i1), .val (.int i2), .val (.int i3), .val (.int (i0 &&& (3 : Int32))), .val (.int c), .val (.ref a720), .unset, .val (.ref b699), .val (.int (0 : Int32)), .val (.int (0 : Int32))]) A743 at_65 rfl rfl ?_
        refine own_iload (q := 69) (v := (0 : Int32)) A743 at_67 rfl ?_
        refine own_istore (q := 71) (L' := #[.val (.int i0), .val (.int i1), .val (.int i2), .val (.int i3), .val (.int (i0 &&& (3 : Int32))), .val (.int c), .val (.ref a720), .val (.int (0 : Int32)), .val (.ref b699), .val (.int (0 : Int32)), .val (.int (0 : Int32))]) A743 at_69 rfl ?_
        refine own_goto (q := 232) A743 at_71 ?_
        exact rm_tail0 l Z a0 hw zc dA uA a720 t734 k735 [c, (101 : Int32), (100 : Int32), (105 : Int32), (114 : Int32), (101 : Int32), (99 : Int32), (116 : Int32), (115 : Int32)] 9 _ h742 n0 hEL SC hz SD SU E732 V738 C733 K739 (own_cod [c, (101 : Int32), (100 : Int32), (105 : Int32), (114 : Int32), (101 : Int32), (99 : Int32), (116 : Int32), (115 : Int32)] (n := 9) rfl (fun yy hy => ((show ∀ yy ∈ [c, (101 : Int32), (100 : Int32), (105 : Int32), (114 : Int32), (101 : Int32), (99 : Int32), (116 : Int32), (115 : Int32)], ¬ yy < 0 ∧ ¬ (255 : Int32) < yy from (own_fc ⟨hc0, hc1⟩ (own_fc (by decide) (own_fc (by decide) (own_fc (by decide) (own_fc (by decide) (own_fc (by decide) (own_fc (by decide) (own_fc (by decide) (own_fc (by decide) (fun _ z => nomatch z))))))))))) yy hy).2) rfl rfl) (own_b16 (own_fc ⟨hc0, hc1⟩ (own_fc (by decide) (own_fc (by decide) (own_fc (by decide) (own_fc (by decide) (own_fc (by decide) (own_fc (by decide) (own_fc (by decide) (own_fc (by decide) (fun _ z => nomatch z))))))))))) (Nat.le_of_ble_eq_true rfl) (by intro q; simp at q; exact c709 q.symm) (Or.inr (Or.inr ⟨_, rfl⟩)) (Or.inr (Or.inl ⟨_, rfl⟩)) hQ (A743.up (by decide) (by decide))
      · rintro (c709 : (114 : Int32) = c)
        refine own_iconst (q := 43) A708 (1 : Int32) at_42 rfl ?_
        refine own_goto (q := 47) A708 at_43 ?_
        refine own_istore (q := 49) (L' := #[.val (.int i0), .val (.int i1), .val (.int i2), .val (.int i3), .val (.int (i0 &&& (3 : Int32))), .val (.int c), .unset, .unset, .val (.ref b699), .val (.int (0 : Int32)), .val (.int (1 : Int32))]) A708 at_47 rfl ?_
        refine own_aload (q := 51) (v := (.ref b699)) A708 at_49 rfl rfl ?_
        refine own_iload (q := 53) (v := (0 : Int32)) A708 at_51 rfl ?_
        refine own_iload (q := 55) (v := c) A708 at_53 rfl ?_
        refine own_stCv (q := 56) A708 V704 0 (by decide) (by decide) (by decide) (Nat.le_of_ble_eq_true rfl) g701 (Or.inr (Or.inr (Or.inr (by obtain ⟨c, q, _⟩ := V704; exact ⟨c, _, q, by decide⟩)))) at_55 ?_
        intro T744 h745 sl746 A747 W748 X749
        have f750 : Arv Z h745 b699 k700 .char (9 : Int32) [(.int (nar .char c)), (.int (101 : Int32)), (.int (100 : Int32)), (.int (105 : Int32)), (.int (114 : Int32)), (.int (101 : Int32)), (.int (99 : Int32)), (.int (116 : Int32)), (.int (115 : Int32))] (.int 0) := X749
        have f751 : Arv Z h745 b699 k700 .char (9 : Int32) [(.int c), (.int (101 : Int32)), (.int (100 : Int32)), (.int (105 : Int32)), (.int (114 : Int32)), (.int (101 : Int32)), (.int (99 : Int32)), (.int (116 : Int32)), (.int (115 : Int32))] (.int 0) := by
          have q := f750
          rw [hnc] at q
          exact q
        refine own_newO (q := 59) A747 (hw _ (List.mem_of_getElem? (i := 6) rfl)) (hw _ (List.mem_of_getElem? (i := 7) rfl)) (hw _ (List.mem_of_getElem? (i := 8) rfl)) at_56 (by decide) (by decide) ?_
        intro T752 h753 a754 g755 g756 A757 E758 X759 D760
        have z761 : b699 ≠ a754 := Nat.ne_of_lt (Nat.lt_of_lt_of_le f751.lt (Nat.le_of_eq g755))
        have f762 : Arv Z h753 b699 k700 .char (9 : Int32) [(.int c), (.int (101 : Int32)), (.int (100 : Int32)), (.int (105 : Int32)), (.int (114 : Int32)), (.int (101 : Int32)), (.int (99 : Int32)), (.int (116 : Int32)), (.int (115 : Int32))] (.int 0) := f751.ext E758
        have f763 : Fld Z h753 a754 "java/lang/String" "value" "[B" .null := D760 (Or.inr (hw _ (List.mem_of_getElem? (i := 34) rfl))) (ty := (.array .byte)) (by decide)
        have f764 : Fld Z h753 a754 "java/lang/String" "coder" "B" (.int (0 : Int32)) := D760 (Or.inr (hw _ (List.mem_of_getElem? (i := 32) rfl))) (ty := .byte) (by decide)
        refine own_dup (q := 60) A757 at_59 rfl ?_
        refine own_aload (q := 62) (v := (.ref b699)) A757 at_60 rfl rfl ?_
        refine own_special (q := 65) (W := 1) (argsL := [(.ref b699)]) (rest := [(.ref a754)]) A757 rfl (hw _ (List.mem_of_getElem? (i := 9) rfl)) (hw _ (List.mem_of_getElem? (i := 10) rfl)) (hw _ (List.mem_of_getElem? (i := 11) rfl)) (by decide) (own_payV (cs := [c, (101 : Int32), (100 : Int32), (105 : Int32), (114 : Int32), (101 : Int32), (99 : Int32), (116 : Int32), (115 : Int32)]) (bs := _) (n := 9) (N := 9) (kI := 4) (own_wV hw) (hw _ (List.mem_of_getElem? (i := 7) rfl)) A757.old g756 X759 f763 f764 f762 SC hz rfl rfl (by decide) (by decide) (own_fc ⟨hc0, hc1⟩ (own_fc (by decide) (own_fc (by decide) (own_fc (by decide) (own_fc (by decide) (own_fc (by decide) (own_fc (by decide) (own_fc (by decide) (own_fc (by decide) (fun _ z => nomatch z)))))))))) rfl (by decide) (by decide)) (by simp) (Nat.le_of_eq rfl) own_pd8 rfl rfl rfl at_62 (by decide) (by decide) ?_
        rintro v774 T775 h776 A777 ⟨rfl, K765, E766, C767, t768, k769, g770, g771, V772, K773⟩
        show own_Run p e below Q m T775 65 #[.val (.int i0), .val (.int i1), .val (.int i2), .val (.int i3), .val (.int (i0 &&& (3 : Int32))), .val (.int c), .unset, .unset, .val (.ref b699), .val (.int (0 : Int32)), .val (.int (1 : Int32))] [(.ref a754)]
        refine own_astore (q := 67) (L' := #[.val (.int i0), .val (.int i1), .val (.int i2), .val (.int i3), .val (.int (i0 &&& (3 : Int32))), .val (.int c), .val (.ref a754), .unset, .val (.ref b699), .val (.int (0 : Int32)), .val (.int (1 : Int32))]) A777 at_65 rfl rfl ?_
        refine own_iload (q := 69) (v := (1 : Int32)) A777 at_67 rfl ?_
        refine own_istore (q := 71) (L' := #[.val (.int i0), .val (.int i1), .val (.int i2), .val (.int i3), .val (.int (i0 &&& (3 : Int32))), .val (.int c), .val (.ref a754), .val (.int (1 : Int32)), .val (.ref b699), .val (.int (0 : Int32)), .val (.int (1 : Int32))]) A777 at_69 rfl ?_
        refine own_goto (q := 232) A777 at_71 ?_
        exact rm_tail1 l Z a0 hw zc dA uA a754 t768 k769 [c, (101 : Int32), (100 : Int32), (105 : Int32), (114 : Int32), (101 : Int32), (99 : Int32), (116 : Int32), (115 : Int32)] 9 _ h776 n0 hEL SC hz SD SU E766 V772 C767 K773 (own_cod [c, (101 : Int32), (100 : Int32), (105 : Int32), (114 : Int32), (101 : Int32), (99 : Int32), (116 : Int32), (115 : Int32)] (n := 9) rfl (fun yy hy => ((show ∀ yy ∈ [c, (101 : Int32), (100 : Int32), (105 : Int32), (114 : Int32), (101 : Int32), (99 : Int32), (116 : Int32), (115 : Int32)], ¬ yy < 0 ∧ ¬ (255 : Int32) < yy from (own_fc ⟨hc0, hc1⟩ (own_fc (by decide) (own_fc (by decide) (own_fc (by decide) (own_fc (by decide) (own_fc (by decide) (own_fc (by decide) (own_fc (by decide) (own_fc (by decide) (fun _ z => nomatch z))))))))))) yy hy).2) rfl rfl) (own_b16 (own_fc ⟨hc0, hc1⟩ (own_fc (by decide) (own_fc (by decide) (own_fc (by decide) (own_fc (by decide) (own_fc (by decide) (own_fc (by decide) (own_fc (by decide) (own_fc (by decide) (fun _ z => nomatch z))))))))))) (Nat.le_of_ble_eq_true rfl) (by rw [← c709]) (Or.inr (Or.inr ⟨_, rfl⟩)) (Or.inr (Or.inl ⟨_, rfl⟩)) hQ (A777.up (by decide) (by decide))
    · rw [qk]
      refine own_istore (q := 32) (L' := #[.val (.int i0), .val (.int i1), .val (.int i2), .val (.int i3), .val (.int (i0 &&& (3 : Int32))), .val (.int c), .unset, .unset, .val (.ref b699), .val (.int (1 : Int32)), .unset]) A708 at_30 rfl ?_
      refine own_aload (q := 34) (v := (.ref b699)) A708 at_32 rfl rfl ?_
      refine own_iload (q := 36) (v := (1 : Int32)) A708 at_34 rfl ?_
      refine own_caloadv (q := 37) (v := (.int (101 : Int32))) A708 V704 1 (by decide) (by decide) (by decide) rfl at_36 ?_
      refine own_iload (q := 39) (v := c) A708 at_37 rfl ?_
      refine own_icmp (q := 46) (q' := 42) A708 at_39 ?_ ?_
      · rintro (c778 : ¬ (101 : Int32) = c)
        refine own_iconst (q := 47) A708 (0 : Int32) at_46 rfl ?_
        refine own_istore (q := 49) (L' := #[.val (.int i0), .val (.int i1), .val (.int i2), .val (.int i3), .val (.int (i0 &&& (3 : Int32))), .val (.int c), .unset, .unset, .val (.ref b699), .val (.int (1 : Int32)), .val (.int (0 : Int32))]) A708 at_47 rfl ?_
        refine own_aload (q := 51) (v := (.ref b699)) A708 at_49 rfl rfl ?_
        refine own_iload (q := 53) (v := (1 : Int32)) A708 at_51 rfl ?_
        refine own_iload (q := 55) (v := c) A708 at_53 rfl ?_
        refine own_stCv (q := 56) A708 V704 1 (by decide) (by decide) (by decide) (Nat.le_of_ble_eq_true rfl) g701 (Or.inr (Or.inr (Or.inr (by obtain ⟨c, q, _⟩ := V704; exact ⟨c, _, q, by decide⟩)))) at_55 ?_
        intro T779 h780 sl781 A782 W783 X784
        have f785 : Arv Z h780 b699 k700 .char (9 : Int32) [(.int (114 : Int32)), (.int (nar .char c)), (.int (100 : Int32)), (.int (105 : Int32)), (.int (114 : Int32)), (.int (101 : Int32)), (.int (99 : Int32)), (.int (116 : Int32)), (.int (115 : Int32))] (.int 0) := X784
        have f786 : Arv Z h780 b699 k700 .char (9 : Int32) [(.int (114 : Int32)), (.int c), (.int (100 : Int32)), (.int (105 : Int32)), (.int (114 : Int32)), (.int (101 : Int32)), (.int (99 : Int32)), (.int (116 : Int32)), (.int (115 : Int32))] (.int 0) := by
          have q := f785
          rw [hnc] at q
          exact q
        refine own_newO (q := 59) A782 (hw _ (List.mem_of_getElem? (i := 6) rfl)) (hw _ (List.mem_of_getElem? (i := 7) rfl)) (hw _ (List.mem_of_getElem? (i := 8) rfl)) at_56 (by decide) (by decide) ?_
        intro T787 h788 a789 g790 g791 A792 E793 X794 D795
        have z796 : b699 ≠ a789 := Nat.ne_of_lt (Nat.lt_of_lt_of_le f786.lt (Nat.le_of_eq g790))
        have f797 : Arv Z h788 b699 k700 .char (9 : Int32) [(.int (114 : Int32)), (.int c), (.int (100 : Int32)), (.int (105 : Int32)), (.int (114 : Int32)), (.int (101 : Int32)), (.int (99 : Int32)), (.int (116 : Int32)), (.int (115 : Int32))] (.int 0) := f786.ext E793
        have f798 : Fld Z h788 a789 "java/lang/String" "value" "[B" .null := D795 (Or.inr (hw _ (List.mem_of_getElem? (i := 34) rfl))) (ty := (.array .byte)) (by decide)
        have f799 : Fld Z h788 a789 "java/lang/String" "coder" "B" (.int (0 : Int32)) := D795 (Or.inr (hw _ (List.mem_of_getElem? (i := 32) rfl))) (ty := .byte) (by decide)
        refine own_dup (q := 60) A792 at_59 rfl ?_
        refine own_aload (q := 62) (v := (.ref b699)) A792 at_60 rfl rfl ?_
        refine own_special (q := 65) (W := 1) (argsL := [(.ref b699)]) (rest := [(.ref a789)]) A792 rfl (hw _ (List.mem_of_getElem? (i := 9) rfl)) (hw _ (List.mem_of_getElem? (i := 10) rfl)) (hw _ (List.mem_of_getElem? (i := 11) rfl)) (by decide) (own_payV (cs := [(114 : Int32), c, (100 : Int32), (105 : Int32), (114 : Int32), (101 : Int32), (99 : Int32), (116 : Int32), (115 : Int32)]) (bs := _) (n := 9) (N := 9) (kI := 4) (own_wV hw) (hw _ (List.mem_of_getElem? (i := 7) rfl)) A792.old g791 X794 f798 f799 f797 SC hz rfl rfl (by decide) (by decide) (own_fc (by decide) (own_fc ⟨hc0, hc1⟩ (own_fc (by decide) (own_fc (by decide) (own_fc (by decide) (own_fc (by decide) (own_fc (by decide) (own_fc (by decide) (own_fc (by decide) (fun _ z => nomatch z)))))))))) rfl (by decide) (by decide)) (by simp) (Nat.le_of_eq rfl) own_pd8 rfl rfl rfl at_62 (by decide) (by decide) ?_
        rintro v809 T810 h811 A812 ⟨rfl, K800, E801, C802, t803, k804, g805, g806, V807, K808⟩
        show own_Run p e below Q m T810 65 #[.val (.int i0), .val (.int i1), .val (.int i2), .val (.int i3), .val (.int (i0 &&& (3 : Int32))), .val (.int c), .unset, .unset, .val (.ref b699), .val (.int (1 : Int32)), .val (.int (0 : Int32))] [(.ref a789)]
        refine own_astore (q := 67) (L' := #[.val (.int i0), .val (.int i1), .val (.int i2), .val (.int i3), .val (.int (i0 &&& (3 : Int32))), .val (.int c), .val (.ref a789), .unset, .val (.ref b699), .val (.int (1 : Int32)), .val (.int (0 : Int32))]) A812 at_65 rfl rfl ?_
        refine own_iload (q := 69) (v := (0 : Int32)) A812 at_67 rfl ?_
        refine own_istore (q := 71) (L' := #[.val (.int i0), .val (.int i1), .val (.int i2), .val (.int i3), .val (.int (i0 &&& (3 : Int32))), .val (.int c), .val (.ref a789), .val (.int (0 : Int32)), .val (.ref b699), .val (.int (1 : Int32)), .val (.int (0 : Int32))]) A812 at_69 rfl ?_
        refine own_goto (q := 232) A812 at_71 ?_
        exact rm_tail0 l Z a0 hw zc dA uA a789 t803 k804 [(114 : Int32), c, (100 : Int32), (105 : Int32), (114 : Int32), (101 : Int32), (99 : Int32), (116 : Int32), (115 : Int32)] 9 _ h811 n0 hEL SC hz SD SU E801 V807 C802 K808 (own_cod [(114 : Int32), c, (100 : Int32), (105 : Int32), (114 : Int32), (101 : Int32), (99 : Int32), (116 : Int32), (115 : Int32)] (n := 9) rfl (fun yy hy => ((show ∀ yy ∈ [(114 : Int32), c, (100 : Int32), (105 : Int32), (114 : Int32), (101 : Int32), (99 : Int32), (116 : Int32), (115 : Int32)], ¬ yy < 0 ∧ ¬ (255 : Int32) < yy from (own_fc (by decide) (own_fc ⟨hc0, hc1⟩ (own_fc (by decide) (own_fc (by decide) (own_fc (by decide) (own_fc (by decide) (own_fc (by decide) (own_fc (by decide) (own_fc (by decide) (fun _ z => nomatch z))))))))))) yy hy).2) rfl rfl) (own_b16 (own_fc (by decide) (own_fc ⟨hc0, hc1⟩ (own_fc (by decide) (own_fc (by decide) (own_fc (by decide) (own_fc (by decide) (own_fc (by decide) (own_fc (by decide) (own_fc (by decide) (fun _ z => nomatch z))))))))))) (Nat.le_of_ble_eq_true rfl) (by intro q; simp at q; exact c778 q.symm) (Or.inr (Or.inr ⟨_, rfl⟩)) (Or.inr (Or.inl ⟨_, rfl⟩)) hQ (A812.up (by decide) (by decide))
      · rintro (c778 : (101 : Int32) = c)
        refine own_iconst (q := 43) A708 (1 : Int32) at_42 rfl ?_
        refine own_goto (q := 47) A708 at_43 ?_
        refine own_istore (q := 49) (L' := #[.val (.int i0), .val (.int i1), .val (.int i2), .val (.int i3), .val (.int (i0 &&& (3 : Int32))), .val (.int c), .unset, .unset, .val (.ref b699), .val (.int (1 : Int32)), .val (.int (1 : Int32))]) A708 at_47 rfl ?_
        refine own_aload (q := 51) (v := (.ref b699)) A708 at_49 rfl rfl ?_
        refine own_iload (q := 53) (v := (1 : Int32)) A708 at_51 rfl ?_
        refine own_iload (q := 55) (v := c) A708 at_53 rfl ?_
        refine own_stCv (q := 56) A708 V704 1 (by decide) (by decide) (by decide) (Nat.le_of_ble_eq_true rfl) g701 (Or.inr (Or.inr (Or.inr (by obtain ⟨c, q, _⟩ := V704; exact ⟨c, _, q, by decide⟩)))) at_55 ?_
        intro T813 h814 sl815 A816 W817 X818
        have f819 : Arv Z h814 b699 k700 .char (9 : Int32) [(.int (114 : Int32)), (.int (nar .char c)), (.int (100 : Int32)), (.int (105 : Int32)), (.int (114 : Int32)), (.int (101 : Int32)), (.int (99 : Int32)), (.int (116 : Int32)), (.int (115 : Int32))] (.int 0) := X818
        have f820 : Arv Z h814 b699 k700 .char (9 : Int32) [(.int (114 : Int32)), (.int c), (.int (100 : Int32)), (.int (105 : Int32)), (.int (114 : Int32)), (.int (101 : Int32)), (.int (99 : Int32)), (.int (116 : Int32)), (.int (115 : Int32))] (.int 0) := by
          have q := f819
          rw [hnc] at q
          exact q
        refine own_newO (q := 59) A816 (hw _ (List.mem_of_getElem? (i := 6) rfl)) (hw _ (List.mem_of_getElem? (i := 7) rfl)) (hw _ (List.mem_of_getElem? (i := 8) rfl)) at_56 (by decide) (by decide) ?_
        intro T821 h822 a823 g824 g825 A826 E827 X828 D829
        have z830 : b699 ≠ a823 := Nat.ne_of_lt (Nat.lt_of_lt_of_le f820.lt (Nat.le_of_eq g824))
        have f831 : Arv Z h822 b699 k700 .char (9 : Int32) [(.int (114 : Int32)), (.int c), (.int (100 : Int32)), (.int (105 : Int32)), (.int (114 : Int32)), (.int (101 : Int32)), (.int (99 : Int32)), (.int (116 : Int32)), (.int (115 : Int32))] (.int 0) := f820.ext E827
        have f832 : Fld Z h822 a823 "java/lang/String" "value" "[B" .null := D829 (Or.inr (hw _ (List.mem_of_getElem? (i := 34) rfl))) (ty := (.array .byte)) (by decide)
        have f833 : Fld Z h822 a823 "java/lang/String" "coder" "B" (.int (0 : Int32)) := D829 (Or.inr (hw _ (List.mem_of_getElem? (i := 32) rfl))) (ty := .byte) (by decide)
        refine own_dup (q := 60) A826 at_59 rfl ?_
        refine own_aload (q := 62) (v := (.ref b699)) A826 at_60 rfl rfl ?_
        refine own_special (q := 65) (W := 1) (argsL := [(.ref b699)]) (rest := [(.ref a823)]) A826 rfl (hw _ (List.mem_of_getElem? (i := 9) rfl)) (hw _ (List.mem_of_getElem? (i := 10) rfl)) (hw _ (List.mem_of_getElem? (i := 11) rfl)) (by decide) (own_payV (cs := [(114 : Int32), c, (100 : Int32), (105 : Int32), (114 : Int32), (101 : Int32), (99 : Int32), (116 : Int32), (115 : Int32)]) (bs := _) (n := 9) (N := 9) (kI := 4) (own_wV hw) (hw _ (List.mem_of_getElem? (i := 7) rfl)) A826.old g825 X828 f832 f833 f831 SC hz rfl rfl (by decide) (by decide) (own_fc (by decide) (own_fc ⟨hc0, hc1⟩ (own_fc (by decide) (own_fc (by decide) (own_fc (by decide) (own_fc (by decide) (own_fc (by decide) (own_fc (by decide) (own_fc (by decide) (fun _ z => nomatch z)))))))))) rfl (by decide) (by decide)) (by simp) (Nat.le_of_eq rfl) own_pd8 rfl rfl rfl at_62 (by decide) (by decide) ?_
        rintro v843 T844 h845 A846 ⟨rfl, K834, E835, C836, t837, k838, g839, g840, V841, K842⟩
        show own_Run p e below Q m T844 65 #[.val (.int i0), .val (.int i1), .val (.int i2), .val (.int i3), .val (.int (i0 &&& (3 : Int32))), .val (.int c), .unset, .unset, .val (.ref b699), .val (.int (1 : Int32)), .val (.int (1 : Int32))] [(.ref a823)]
        refine own_astore (q := 67) (L' := #[.val (.int i0), .val (.int i1), .val (.int i2), .val (.int i3), .val (.int (i0 &&& (3 : Int32))), .val (.int c), .val (.ref a823), .unset, .val (.ref b699), .val (.int (1 : Int32)), .val (.int (1 : Int32))]) A846 at_65 rfl rfl ?_
        refine own_iload (q := 69) (v := (1 : Int32)) A846 at_67 rfl ?_
        refine own_istore (q := 71) (L' := #[.val (.int i0), .val (.int i1), .val (.int i2), .val (.int i3), .val (.int (i0 &&& (3 : Int32))), .val (.int c), .val (.ref a823), .val (.int (1 : Int32)), .val (.ref b699), .val (.int (1 : Int32)), .val (.int (1 : Int32))]) A846 at_69 rfl ?_
        refine own_goto (q := 232) A846 at_71 ?_
        exact rm_tail1 l Z a0 hw zc dA uA a823 t837 k838 [(114 : Int32), c, (100 : Int32), (105 : Int32), (114 : Int32), (101 : Int32), (99 : Int32), (116 : Int32), (115 : Int32)] 9 _ h845 n0 hEL SC hz SD SU E835 V841 C836 K842 (own_cod [(114 : Int32), c, (100 : Int32), (105 : Int32), (114 : Int32), (101 : Int32), (99 : Int32), (116 : Int32), (115 : Int32)] (n := 9) rfl (fun yy hy => ((show ∀ yy ∈ [(114 : Int32), c, (100 : Int32), (105 : Int32), (114 : Int32), (101 : Int32), (99 : Int32), (116 : Int32), (115 : Int32)], ¬ yy < 0 ∧ ¬ (255 : Int32) < yy from (own_fc (by decide) (own_fc ⟨hc0, hc1⟩ (own_fc (by decide) (own_fc (by decide) (own_fc (by decide) (own_fc (by decide) (own_fc (by decide) (own_fc (by decide) (own_fc (by decide) (fun _ z => nomatch z))))))))))) yy hy).2) rfl rfl) (own_b16 (own_fc (by decide) (own_fc ⟨hc0, hc1⟩ (own_fc (by decide) (own_fc (by decide) (own_fc (by decide) (own_fc (by decide) (own_fc (by decide) (own_fc (by decide) (own_fc (by decide) (fun _ z => nomatch z))))))))))) (Nat.le_of_ble_eq_true rfl) (by rw [← c778]) (Or.inr (Or.inr ⟨_, rfl⟩)) (Or.inr (Or.inl ⟨_, rfl⟩)) hQ (A846.up (by decide) (by decide))
    · rw [qk]
      refine own_istore (q := 32) (L' := #[.val (.int i0), .val (.int i1), .val (.int i2), .val (.int i3), .val (.int (i0 &&& (3 : Int32))), .val (.int c), .unset, .unset, .val (.ref b699), .val (.int (2 : Int32)), .unset]) A708 at_30 rfl ?_
      refine own_aload (q := 34) (v := (.ref b699)) A708 at_32 rfl rfl ?_
      refine own_iload (q := 36) (v := (2 : Int32)) A708 at_34 rfl ?_
      refine own_caloadv (q := 37) (v := (.int (100 : Int32))) A708 V704 2 (by decide) (by decide) (by decide) rfl at_36 ?_
      refine own_iload (q := 39) (v := c) A708 at_37 rfl ?_
      refine own_icmp (q := 46) (q' := 42) A708 at_39 ?_ ?_
      · rintro (c847 : ¬ (100 : Int32) = c)
        refine own_iconst (q := 47) A708 (0 : Int32) at_46 rfl ?_
        refine own_istore (q := 49) (L' := #[.val (.int i0), .val (.int i1), .val (.int i2), .val (.int i3), .val (.int (i0 &&& (3 : Int32))), .val (.int c), .unset, .unset, .val (.ref b699), .val (.int (2 : Int32)), .val (.int (0 : Int32))]) A708 at_47 rfl ?_
        refine own_aload (q := 51) (v := (.ref b699)) A708 at_49 rfl rfl ?_
        refine own_iload (q := 53) (v := (2 : Int32)) A708 at_51 rfl ?_
        refine own_iload (q := 55) (v := c) A708 at_53 rfl ?_
        refine own_stCv (q := 56) A708 V704 2 (by decide) (by decide) (by decide) (Nat.le_of_ble_eq_true rfl) g701 (Or.inr (Or.inr (Or.inr (by obtain ⟨c, q, _⟩ := V704; exact ⟨c, _, q, by decide⟩)))) at_55 ?_
        intro T848 h849 sl850 A851 W852 X853
        have f854 : Arv Z h849 b699 k700 .char (9 : Int32) [(.int (114 : Int32)), (.int (101 : Int32)), (.int (nar .char c)), (.int (105 : Int32)), (.int (114 : Int32)), (.int (101 : Int32)), (.int (99 : Int32)), (.int (116 : Int32)), (.int (115 : Int32))] (.int 0) := X853
        have f855 : Arv Z h849 b699 k700 .char (9 : Int32) [(.int (114 : Int32)), (.int (101 : Int32)), (.int c), (.int (105 : Int32)), (.int (114 : Int32)), (.int (101 : Int32)), (.int (99 : Int32)), (.int (116 : Int32)), (.int (115 : Int32))] (.int 0) := by
          have q := f854
          rw [hnc] at q
          exact q
        refine own_newO (q := 59) A851 (hw _ (List.mem_of_getElem? (i := 6) rfl)) (hw _ (List.mem_of_getElem? (i := 7) rfl)) (hw _ (List.mem_of_getElem? (i := 8) rfl)) at_56 (by decide) (by decide) ?_
        intro T856 h857 a858 g859 g860 A861 E862 X863 D864
        have z865 : b699 ≠ a858 := Nat.ne_of_lt (Nat.lt_of_lt_of_le f855.lt (Nat.le_of_eq g859))
        have f866 : Arv Z h857 b699 k700 .char (9 : Int32) [(.int (114 : Int32)), (.int (101 : Int32)), (.int c), (.int (105 : Int32)), (.int (114 : Int32)), (.int (101 : Int32)), (.int (99 : Int32)), (.int (116 : Int32)), (.int (115 : Int32))] (.int 0) := f855.ext E862
        have f867 : Fld Z h857 a858 "java/lang/String" "value" "[B" .null := D864 (Or.inr (hw _ (List.mem_of_getElem? (i := 34) rfl))) (ty := (.array .byte)) (by decide)
        have f868 : Fld Z h857 a858 "java/lang/String" "coder" "B" (.int (0 : Int32)) := D864 (Or.inr (hw _ (List.mem_of_getElem? (i := 32) rfl))) (ty := .byte) (by decide)
        refine own_dup (q := 60) A861 at_59 rfl ?_
        refine own_aload (q := 62) (v := (.ref b699)) A861 at_60 rfl rfl ?_
        refine own_special (q := 65) (W := 1) (argsL := [(.ref b699)]) (rest := [(.ref a858)]) A861 rfl (hw _ (List.mem_of_getElem? (i := 9) rfl)) (hw _ (List.mem_of_getElem? (i := 10) rfl)) (hw _ (List.mem_of_getElem? (i := 11) rfl)) (by decide) (own_payV (cs := [(114 : Int32), (101 : Int32), c, (105 : Int32), (114 : Int32), (101 : Int32), (99 : Int32), (116 : Int32), (115 : Int32)]) (bs := _) (n := 9) (N := 9) (kI := 4) (own_wV hw) (hw _ (List.mem_of_getElem? (i := 7) rfl)) A861.old g860 X863 f867 f868 f866 SC hz rfl rfl (by decide) (by decide) (own_fc (by decide) (own_fc (by decide) (own_fc ⟨hc0, hc1⟩ (own_fc (by decide) (own_fc (by decide) (own_fc (by decide) (own_fc (by decide) (own_fc (by decide) (own_fc (by decide) (fun _ z => nomatch z)))))))))) rfl (by decide) (by decide)) (by simp) (Nat.le_of_eq rfl) own_pd8 rfl rfl rfl at_62 (by decide) (by decide) ?_
        rintro v878 T879 h880 A881 ⟨rfl, K869, E870, C871, t872, k873, g874, g875, V876, K877⟩
        show own_Run p e below Q m T879 65 #[.val (.int i0), .val (.int i1), .val (.int i2), .val (.int i3), .val (.int (i0 &&& (3 : Int32))), .val (.int c), .unset, .unset, .val (.ref b699), .val (.int (2 : Int32)), .val (.int (0 : Int32))] [(.ref a858)]
        refine own_astore (q := 67) (L' := #[.val (.int i0), .val (.int i1), .val (.int i2), .val (.int i3), .val (.int (i0 &&& (3 : Int32))), .val (.int c), .val (.ref a858), .unset, .val (.ref b699), .val (.int (2 : Int32)), .val (.int (0 : Int32))]) A881 at_65 rfl rfl ?_
        refine own_iload (q := 69) (v := (0 : Int32)) A881 at_67 rfl ?_
        refine own_istore (q := 71) (L' := #[.val (.int i0), .val (.int i1), .val (.int i2), .val (.int i3), .val (.int (i0 &&& (3 : Int32))), .val (.int c), .val (.ref a858), .val (.int (0 : Int32)), .val (.ref b699), .val (.int (2 : Int32)), .val (.int (0 : Int32))]) A881 at_69 rfl ?_
        refine own_goto (q := 232) A881 at_71 ?_
        exact rm_tail0 l Z a0 hw zc dA uA a858 t872 k873 [(114 : Int32), (101 : Int32), c, (105 : Int32), (114 : Int32), (101 : Int32), (99 : Int32), (116 : Int32), (115 : Int32)] 9 _ h880 n0 hEL SC hz SD SU E870 V876 C871 K877 (own_cod [(114 : Int32), (101 : Int32), c, (105 : Int32), (114 : Int32), (101 : Int32), (99 : Int32), (116 : Int32), (115 : Int32)] (n := 9) rfl (fun yy hy => ((show ∀ yy ∈ [(114 : Int32), (101 : Int32), c, (105 : Int32), (114 : Int32), (101 : Int32), (99 : Int32), (116 : Int32), (115 : Int32)], ¬ yy < 0 ∧ ¬ (255 : Int32) < yy from (own_fc (by decide) (own_fc (by decide) (own_fc ⟨hc0, hc1⟩ (own_fc (by decide) (own_fc (by decide) (own_fc (by decide) (own_fc (by decide) (own_fc (by decide) (own_fc (by decide) (fun _ z => nomatch z))))))))))) yy hy).2) rfl rfl) (own_b16 (own_fc (by decide) (own_fc (by decide) (own_fc ⟨hc0, hc1⟩ (own_fc (by decide) (own_fc (by decide) (own_fc (by decide) (own_fc (by decide) (own_fc (by decide) (own_fc (by decide) (fun _ z => nomatch z))))))))))) (Nat.le_of_ble_eq_true rfl) (by intro q; simp at q; exact c847 q.symm) (Or.inr (Or.inr ⟨_, rfl⟩)) (Or.inr (Or.inl ⟨_, rfl⟩)) hQ (A881.up (by decide) (by decide))
      · rintro (c847 : (100 : Int32) = c)
        refine own_iconst (q := 43) A708 (1 : Int32) at_42 rfl ?_
        refine own_goto (q := 47) A708 at_43 ?_
        refine own_istore (q := 49) (L' := #[.val (.int i0), .val (.int i1), .val (.int i2), .val (.int i3), .val (.int (i0 &&& (3 : Int32))), .val (.int c), .unset, .unset, .val (.ref b699), .val (.int (2 : Int32)), .val (.int (1 : Int32))]) A708 at_47 rfl ?_
        refine own_aload (q := 51) (v := (.ref b699)) A708 at_49 rfl rfl ?_
        refine own_iload (q := 53) (v := (2 : Int32)) A708 at_51 rfl ?_
        refine own_iload (q := 55) (v := c) A708 at_53 rfl ?_
        refine own_stCv (q := 56) A708 V704 2 (by decide) (by decide) (by decide) (Nat.le_of_ble_eq_true rfl) g701 (Or.inr (Or.inr (Or.inr (by obtain ⟨c, q, _⟩ := V704; exact ⟨c, _, q, by decide⟩)))) at_55 ?_
        intro T882 h883 sl884 A885 W886 X887
        have f888 : Arv Z h883 b699 k700 .char (9 : Int32) [(.int (114 : Int32)), (.int (101 : Int32)), (.int (nar .char c)), (.int (105 : Int32)), (.int (114 : Int32)), (.int (101 : Int32)), (.int (99 : Int32)), (.int (116 : Int32)), (.int (115 : Int32))] (.int 0) := X887
        have f889 : Arv Z h883 b699 k700 .char (9 : Int32) [(.int (114 : Int32)), (.int (101 : Int32)), (.int c), (.int (105 : Int32)), (.int (114 : Int32)), (.int (101 : Int32)), (.int (99 : Int32)), (.int (116 : Int32)), (.int (115 : Int32))] (.int 0) := by
          have q := f888
          rw [hnc] at q
          exact q
        refine own_newO (q := 59) A885 (hw _ (List.mem_of_getElem? (i := 6) rfl)) (hw _ (List.mem_of_getElem? (i := 7) rfl)) (hw _ (List.mem_of_getElem? (i := 8) rfl)) at_56 (by decide) (by decide) ?_
        intro T890 h891 a892 g893 g894 A895 E896 X897 D898
        have z899 : b699 ≠ a892 := Nat.ne_of_lt (Nat.lt_of_lt_of_le f889.lt (Nat.le_of_eq g893))
        have f900 : Arv Z h891 b699 k700 .char (9 : Int32) [(.int (114 : Int32)), (.int (101 : Int32)), (.int c), (.int (105 : Int32)), (.int (114 : Int32)), (.int (101 : Int32)), (.int (99 : Int32)), (.int (116 : Int32)), (.int (115 : Int32))] (.int 0) := f889.ext E896
        have f901 : Fld Z h891 a892 "java/lang/String" "value" "[B" .null := D898 (Or.inr (hw _ (List.mem_of_getElem? (i := 34) rfl))) (ty := (.array .byte)) (by decide)
        have f902 : Fld Z h891 a892 "java/lang/String" "coder" "B" (.int (0 : Int32)) := D898 (Or.inr (hw _ (List.mem_of_getElem? (i := 32) rfl))) (ty := .byte) (by decide)
        refine own_dup (q := 60) A895 at_59 rfl ?_
        refine own_aload (q := 62) (v := (.ref b699)) A895 at_60 rfl rfl ?_
        refine own_special (q := 65) (W := 1) (argsL := [(.ref b699)]) (rest := [(.ref a892)]) A895 rfl (hw _ (List.mem_of_getElem? (i := 9) rfl)) (hw _ (List.mem_of_getElem? (i := 10) rfl)) (hw _ (List.mem_of_getElem? (i := 11) rfl)) (by decide) (own_payV (cs := [(114 : Int32), (101 : Int32), c, (105 : Int32), (114 : Int32), (101 : Int32), (99 : Int32), (116 : Int32), (115 : Int32)]) (bs := _) (n := 9) (N := 9) (kI := 4) (own_wV hw) (hw _ (List.mem_of_getElem? (i := 7) rfl)) A895.old g894 X897 f901 f902 f900 SC hz rfl rfl (by decide) (by decide) (own_fc (by decide) (own_fc (by decide) (own_fc ⟨hc0, hc1⟩ (own_fc (by decide) (own_fc (by decide) (own_fc (by decide) (own_fc (by decide) (own_fc (by decide) (own_fc (by decide) (fun _ z => nomatch z)))))))))) rfl (by decide) (by decide)) (by simp) (Nat.le_of_eq rfl) own_pd8 rfl rfl rfl at_62 (by decide) (by decide) ?_
        rintro v912 T913 h914 A915 ⟨rfl, K903, E904, C905, t906, k907, g908, g909, V910, K911⟩
        show own_Run p e below Q m T913 65 #[.val (.int i0), .val (.int i1), .val (.int i2), .val (.int i3), .val (.int (i0 &&& (3 : Int32))), .val (.int c), .unset, .unset, .val (.ref b699), .val (.int (2 : Int32)), .val (.int (1 : Int32))] [(.ref a892)]
        refine own_astore (q := 67) (L' := #[.val (.int i0), .val (.int i1), .val (.int i2), .val (.int i3), .val (.int (i0 &&& (3 : Int32))), .val (.int c), .val (.ref a892), .unset, .val (.ref b699), .val (.int (2 : Int32)), .val (.int (1 : Int32))]) A915 at_65 rfl rfl ?_
        refine own_iload (q := 69) (v := (1 : Int32)) A915 at_67 rfl ?_
        refine own_istore (q := 71) (L' := #[.val (.int i0), .val (.int i1), .val (.int i2), .val (.int i3), .val (.int (i0 &&& (3 : Int32))), .val (.int c), .val (.ref a892), .val (.int (1 : Int32)), .val (.ref b699), .val (.int (2 : Int32)), .val (.int (1 : Int32))]) A915 at_69 rfl ?_
        refine own_goto (q := 232) A915 at_71 ?_
        exact rm_tail1 l Z a0 hw zc dA uA a892 t906 k907 [(114 : Int32), (101 : Int32), c, (105 : Int32), (114 : Int32), (101 : Int32), (99 : Int32), (116 : Int32), (115 : Int32)] 9 _ h914 n0 hEL SC hz SD SU E904 V910 C905 K911 (own_cod [(114 : Int32), (101 : Int32), c, (105 : Int32), (114 : Int32), (101 : Int32), (99 : Int32), (116 : Int32), (115 : Int32)] (n := 9) rfl (fun yy hy => ((show ∀ yy ∈ [(114 : Int32), (101 : Int32), c, (105 : Int32), (114 : Int32), (101 : Int32), (99 : Int32), (116 : Int32), (115 : Int32)], ¬ yy < 0 ∧ ¬ (255 : Int32) < yy from (own_fc (by decide) (own_fc (by decide) (own_fc ⟨hc0, hc1⟩ (own_fc (by decide) (own_fc (by decide) (own_fc (by decide) (own_fc (by decide) (own_fc (by decide) (own_fc (by decide) (fun _ z => nomatch z))))))))))) yy hy).2) rfl rfl) (own_b16 (own_fc (by decide) (own_fc (by decide) (own_fc ⟨hc0, hc1⟩ (own_fc (by decide) (own_fc (by decide) (own_fc (by decide) (own_fc (by decide) (own_fc (by decide) (own_fc (by decide) (fun _ z => nomatch z))))))))))) (Nat.le_of_ble_eq_true rfl) (by rw [← c847]) (Or.inr (Or.inr ⟨_, rfl⟩)) (Or.inr (Or.inl ⟨_, rfl⟩)) hQ (A915.up (by decide) (by decide))
    · rw [qk]
      refine own_istore (q := 32) (L' := #[.val (.int i0), .val (.int i1), .val (.int i2), .val (.int i3), .val (.int (i0 &&& (3 : Int32))), .val (.int c), .unset, .unset, .val (.ref b699), .val (.int (3 : Int32)), .unset]) A708 at_30 rfl ?_
      refine own_aload (q := 34) (v := (.ref b699)) A708 at_32 rfl rfl ?_
      refine own_iload (q := 36) (v := (3 : Int32)) A708 at_34 rfl ?_
      refine own_caloadv (q := 37) (v := (.int (105 : Int32))) A708 V704 3 (by decide) (by decide) (by decide) rfl at_36 ?_
      refine own_iload (q := 39) (v := c) A708 at_37 rfl ?_
      refine own_icmp (q := 46) (q' := 42) A708 at_39 ?_ ?_
      · rintro (c916 : ¬ (105 : Int32) = c)
        refine own_iconst (q := 47) A708 (0 : Int32) at_46 rfl ?_
        refine own_istore (q := 49) (L' := #[.val (.int i0), .val (.int i1), .val (.int i2), .val (.int i3), .val (.int (i0 &&& (3 : Int32))), .val (.int c), .unset, .unset, .val (.ref b699), .val (.int (3 : Int32)), .val (.int (0 : Int32))]) A708 at_47 rfl ?_
        refine own_aload (q := 51) (v := (.ref b699)) A708 at_49 rfl rfl ?_
        refine own_iload (q := 53) (v := (3 : Int32)) A708 at_51 rfl ?_
        refine own_iload (q := 55) (v := c) A708 at_53 rfl ?_
        refine own_stCv (q := 56) A708 V704 3 (by decide) (by decide) (by decide) (Nat.le_of_ble_eq_true rfl) g701 (Or.inr (Or.inr (Or.inr (by obtain ⟨c, q, _⟩ := V704; exact ⟨c, _, q, by decide⟩)))) at_55 ?_
        intro T917 h918 sl919 A920 W921 X922
        have f923 : Arv Z h918 b699 k700 .char (9 : Int32) [(.int (114 : Int32)), (.int (101 : Int32)), (.int (100 : Int32)), (.int (nar .char c)), (.int (114 : Int32)), (.int (101 : Int32)), (.int (99 : Int32)), (.int (116 : Int32)), (.int (115 : Int32))] (.int 0) := X922
        have f924 : Arv Z h918 b699 k700 .char (9 : Int32) [(.int (114 : Int32)), (.int (101 : Int32)), (.int (100 : Int32)), (.int c), (.int (114 : Int32)), (.int (101 : Int32)), (.int (99 : Int32)), (.int (116 : Int32)), (.int (115 : Int32))] (.int 0) := by
          have q := f923
          rw [hnc] at q
          exact q
        refine own_newO (q := 59) A920 (hw _ (List.mem_of_getElem? (i := 6) rfl)) (hw _ (List.mem_of_getElem? (i := 7) rfl)) (hw _ (List.mem_of_getElem? (i := 8) rfl)) at_56 (by decide) (by decide) ?_
        intro T925 h926 a927 g928 g929 A930 E931 X932 D933
        have z934 : b699 ≠ a927 := Nat.ne_of_lt (Nat.lt_of_lt_of_le f924.lt (Nat.le_of_eq g928))
        have f935 : Arv Z h926 b699 k700 .char (9 : Int32) [(.int (114 : Int32)), (.int (101 : Int32)), (.int (100 : Int32)), (.int c), (.int (114 : Int32)), (.int (101 : Int32)), (.int (99 : Int32)), (.int (116 : Int32)), (.int (115 : Int32))] (.int 0) := f924.ext E931
        have f936 : Fld Z h926 a927 "java/lang/String" "value" "[B" .null := D933 (Or.inr (hw _ (List.mem_of_getElem? (i := 34) rfl))) (ty := (.array .byte)) (by decide)
        have f937 : Fld Z h926 a927 "java/lang/String" "coder" "B" (.int (0 : Int32)) := D933 (Or.inr (hw _ (List.mem_of_getElem? (i := 32) rfl))) (ty := .byte) (by decide)
        refine own_dup (q := 60) A930 at_59 rfl ?_
        refine own_aload (q := 62) (v := (.ref b699)) A930 at_60 rfl rfl ?_
        refine own_special (q := 65) (W := 1) (argsL := [(.ref b699)]) (rest := [(.ref a927)]) A930 rfl (hw _ (List.mem_of_getElem? (i := 9) rfl)) (hw _ (List.mem_of_getElem? (i := 10) rfl)) (hw _ (List.mem_of_getElem? (i := 11) rfl)) (by decide) (own_payV (cs := [(114 : Int32), (101 : Int32), (100 : Int32), c, (114 : Int32), (101 : Int32), (99 : Int32), (116 : Int32), (115 : Int32)]) (bs := _) (n := 9) (N := 9) (kI := 4) (own_wV hw) (hw _ (List.mem_of_getElem? (i := 7) rfl)) A930.old g929 X932 f936 f937 f935 SC hz rfl rfl (by decide) (by decide) (own_fc (by decide) (own_fc (by decide) (own_fc (by decide) (own_fc ⟨hc0, hc1⟩ (own_fc (by decide) (own_fc (by decide) (own_fc (by decide) (own_fc (by decide) (own_fc (by decide) (fun _ z => nomatch z)))))))))) rfl (by decide) (by decide)) (by simp) (Nat.le_of_eq rfl) own_pd8 rfl rfl rfl at_62 (by decide) (by decide) ?_
        rintro v947 T948 h949 A950 ⟨rfl, K938, E939, C940, t941, k942, g943, g944, V945, K946⟩
        show own_Run p e below Q m T948 65 #[.val (.int i0), .val (.int i1), .val (.int i2), .val (.int i3), .val (.int (i0 &&& (3 : Int32))), .val (.int c), .unset, .unset, .val (.ref b699), .val (.int (3 : Int32)), .val (.int (0 : Int32))] [(.ref a927)]
        refine own_astore (q := 67) (L' := #[.val (.int i0), .val (.int i1), .val (.int i2), .val (.int i3), .val (.int (i0 &&& (3 : Int32))), .val (.int c), .val (.ref a927), .unset, .val (.ref b699), .val (.int (3 : Int32)), .val (.int (0 : Int32))]) A950 at_65 rfl rfl ?_
        refine own_iload (q := 69) (v := (0 : Int32)) A950 at_67 rfl ?_
        refine own_istore (q := 71) (L' := #[.val (.int i0), .val (.int i1), .val (.int i2), .val (.int i3), .val (.int (i0 &&& (3 : Int32))), .val (.int c), .val (.ref a927), .val (.int (0 : Int32)), .val (.ref b699), .val (.int (3 : Int32)), .val (.int (0 : Int32))]) A950 at_69 rfl ?_
        refine own_goto (q := 232) A950 at_71 ?_
        exact rm_tail0 l Z a0 hw zc dA uA a927 t941 k942 [(114 : Int32), (101 : Int32), (100 : Int32), c, (114 : Int32), (101 : Int32), (99 : Int32), (116 : Int32), (115 : Int32)] 9 _ h949 n0 hEL SC hz SD SU E939 V945 C940 K946 (own_cod [(114 : Int32), (101 : Int32), (100 : Int32), c, (114 : Int32), (101 : Int32), (99 : Int32), (116 : Int32), (115 : Int32)] (n := 9) rfl (fun yy hy => ((show ∀ yy ∈ [(114 : Int32), (101 : Int32), (100 : Int32), c, (114 : Int32), (101 : Int32), (99 : Int32), (116 : Int32), (115 : Int32)], ¬ yy < 0 ∧ ¬ (255 : Int32) < yy from (own_fc (by decide) (own_fc (by decide) (own_fc (by decide) (own_fc ⟨hc0, hc1⟩ (own_fc (by decide) (own_fc (by decide) (own_fc (by decide) (own_fc (by decide) (own_fc (by decide) (fun _ z => nomatch z))))))))))) yy hy).2) rfl rfl) (own_b16 (own_fc (by decide) (own_fc (by decide) (own_fc (by decide) (own_fc ⟨hc0, hc1⟩ (own_fc (by decide) (own_fc (by decide) (own_fc (by decide) (own_fc (by decide) (own_fc (by decide) (fun _ z => nomatch z))))))))))) (Nat.le_of_ble_eq_true rfl) (by intro q; simp at q; exact c916 q.symm) (Or.inr (Or.inr ⟨_, rfl⟩)) (Or.inr (Or.inl ⟨_, rfl⟩)) hQ (A950.up (by decide) (by decide))
      · rintro (c916 : (105 : Int32) = c)
        refine own_iconst (q := 43) A708 (1 : Int32) at_42 rfl ?_
        refine own_goto (q := 47) A708 at_43 ?_
        refine own_istore (q := 49) (L' := #[.val (.int i0), .val (.int i1), .val (.int i2), .val (.int i3), .val (.int (i0 &&& (3 : Int32))), .val (.int c), .unset, .unset, .val (.ref b699), .val (.int (3 : Int32)), .val (.int (1 : Int32))]) A708 at_47 rfl ?_
        refine own_aload (q := 51) (v := (.ref b699)) A708 at_49 rfl rfl ?_
        refine own_iload (q := 53) (v := (3 : Int32)) A708 at_51 rfl ?_
        refine own_iload (q := 55) (v := c) A708 at_53 rfl ?_
        refine own_stCv (q := 56) A708 V704 3 (by decide) (by decide) (by decide) (Nat.le_of_ble_eq_true rfl) g701 (Or.inr (Or.inr (Or.inr (by obtain ⟨c, q, _⟩ := V704; exact ⟨c, _, q, by decide⟩)))) at_55 ?_
        intro T951 h952 sl953 A954 W955 X956
        have f957 : Arv Z h952 b699 k700 .char (9 : Int32) [(.int (114 : Int32)), (.int (101 : Int32)), (.int (100 : Int32)), (.int (nar .char c)), (.int (114 : Int32)), (.int (101 : Int32)), (.int (99 : Int32)), (.int (116 : Int32)), (.int (115 : Int32))] (.int 0) := X956
        have f958 : Arv Z h952 b699 k700 .char (9 : Int32) [(.int (114 : Int32)), (.int (101 : Int32)), (.int (100 : Int32)), (.int c), (.int (114 : Int32)), (.int (101 : Int32)), (.int (99 : Int32)), (.int (116 : Int32)), (.int (115 : Int32))] (.int 0) := by
          have q := f957
          rw [hnc] at q
          exact q
        refine own_newO (q := 59) A954 (hw _ (List.mem_of_getElem? (i := 6) rfl)) (hw _ (List.mem_of_getElem? (i := 7) rfl)) (hw _ (List.mem_of_getElem? (i := 8) rfl)) at_56 (by decide) (by decide) ?_
        intro T959 h960 a961 g962 g963 A964 E965 X966 D967
        have z968 : b699 ≠ a961 := Nat.ne_of_lt (Nat.lt_of_lt_of_le f958.lt (Nat.le_of_eq g962))
        have f969 : Arv Z h960 b699 k700 .char (9 : Int32) [(.int (114 : Int32)), (.int (101 : Int32)), (.int (100 : Int32)), (.int c), (.int (114 : Int32)), (.int (101 : Int32)), (.int (99 : Int32)), (.int (116 : Int32)), (.int (115 : Int32))] (.int 0) := f958.ext E965
        have f970 : Fld Z h960 a961 "java/lang/String" "value" "[B" .null := D967 (Or.inr (hw _ (List.mem_of_getElem? (i := 34) rfl))) (ty := (.array .byte)) (by decide)
        have f971 : Fld Z h960 a961 "java/lang/String" "coder" "B" (.int (0 : Int32)) := D967 (Or.inr (hw _ (List.mem_of_getElem? (i := 32) rfl))) (ty := .byte) (by decide)
        refine own_dup (q := 60) A964 at_59 rfl ?_
        refine own_aload (q := 62) (v := (.ref b699)) A964 at_60 rfl rfl ?_
        refine own_special (q := 65) (W := 1) (argsL := [(.ref b699)]) (rest := [(.ref a961)]) A964 rfl (hw _ (List.mem_of_getElem? (i := 9) rfl)) (hw _ (List.mem_of_getElem? (i := 10) rfl)) (hw _ (List.mem_of_getElem? (i := 11) rfl)) (by decide) (own_payV (cs := [(114 : Int32), (101 : Int32), (100 : Int32), c, (114 : Int32), (101 : Int32), (99 : Int32), (116 : Int32), (115 : Int32)]) (bs := _) (n := 9) (N := 9) (kI := 4) (own_wV hw) (hw _ (List.mem_of_getElem? (i := 7) rfl)) A964.old g963 X966 f970 f971 f969 SC hz rfl rfl (by decide) (by decide) (own_fc (by decide) (own_fc (by decide) (own_fc (by decide) (own_fc ⟨hc0, hc1⟩ (own_fc (by decide) (own_fc (by decide) (own_fc (by decide) (own_fc (by decide) (own_fc (by decide) (fun _ z => nomatch z)))))))))) rfl (by decide) (by decide)) (by simp) (Nat.le_of_eq rfl) own_pd8 rfl rfl rfl at_62 (by decide) (by decide) ?_
        rintro v981 T982 h983 A984 ⟨rfl, K972, E973, C974, t975, k976, g977, g978, V979, K980⟩
        show own_Run p e below Q m T982 65 #[.val (.int i0), .val (.int i1), .val (.int i2), .val (.int i3), .val (.int (i0 &&& (3 : Int32))), .val (.int c), .unset, .unset, .val (.ref b699), .val (.int (3 : Int32)), .val (.int (1 : Int32))] [(.ref a961)]
        refine own_astore (q := 67) (L' := #[.val (.int i0), .val (.int i1), .val (.int i2), .val (.int i3), .val (.int (i0 &&& (3 : Int32))), .val (.int c), .val (.ref a961), .unset, .val (.ref b699), .val (.int (3 : Int32)), .val (.int (1 : Int32))]) A984 at_65 rfl rfl ?_
        refine own_iload (q := 69) (v := (1 : Int32)) A984 at_67 rfl ?_
        refine own_istore (q := 71) (L' := #[.val (.int i0), .val (.int i1), .val (.int i2), .val (.int i3), .val (.int (i0 &&& (3 : Int32))), .val (.int c), .val (.ref a961), .val (.int (1 : Int32)), .val (.ref b699), .val (.int (3 : Int32)), .val (.int (1 : Int32))]) A984 at_69 rfl ?_
        refine own_goto (q := 232) A984 at_71 ?_
        exact rm_tail1 l Z a0 hw zc dA uA a961 t975 k976 [(114 : Int32), (101 : Int32), (100 : Int32), c, (114 : Int32), (101 : Int32), (99 : Int32), (116 : Int32), (115 : Int32)] 9 _ h983 n0 hEL SC hz SD SU E973 V979 C974 K980 (own_cod [(114 : Int32), (101 : Int32), (100 : Int32), c, (114 : Int32), (101 : Int32), (99 : Int32), (116 : Int32), (115 : Int32)] (n := 9) rfl (fun yy hy => ((show ∀ yy ∈ [(114 : Int32), (101 : Int32), (100 : Int32), c, (114 : Int32), (101 : Int32), (99 : Int32), (116 : Int32), (115 : Int32)], ¬ yy < 0 ∧ ¬ (255 : Int32) < yy from (own_fc (by decide) (own_fc (by decide) (own_fc (by decide) (own_fc ⟨hc0, hc1⟩ (own_fc (by decide) (own_fc (by decide) (own_fc (by decide) (own_fc (by decide) (own_fc (by decide) (fun _ z => nomatch z))))))))))) yy hy).2) rfl rfl) (own_b16 (own_fc (by decide) (own_fc (by decide) (own_fc (by decide) (own_fc ⟨hc0, hc1⟩ (own_fc (by decide) (own_fc (by decide) (own_fc (by decide) (own_fc (by decide) (own_fc (by decide) (fun _ z => nomatch z))))))))))) (Nat.le_of_ble_eq_true rfl) (by rw [← c916]) (Or.inr (Or.inr ⟨_, rfl⟩)) (Or.inr (Or.inl ⟨_, rfl⟩)) hQ (A984.up (by decide) (by decide))
    · rw [qk]
      refine own_istore (q := 32) (L' := #[.val (.int i0), .val (.int i1), .val (.int i2), .val (.int i3), .val (.int (i0 &&& (3 : Int32))), .val (.int c), .unset, .unset, .val (.ref b699), .val (.int (4 : Int32)), .unset]) A708 at_30 rfl ?_
      refine own_aload (q := 34) (v := (.ref b699)) A708 at_32 rfl rfl ?_
      refine own_iload (q := 36) (v := (4 : Int32)) A708 at_34 rfl ?_
      refine own_caloadv (q := 37) (v := (.int (114 : Int32))) A708 V704 4 (by decide) (by decide) (by decide) rfl at_36 ?_
      refine own_iload (q := 39) (v := c) A708 at_37 rfl ?_
      refine own_icmp (q := 46) (q' := 42) A708 at_39 ?_ ?_
      · rintro (c985 : ¬ (114 : Int32) = c)
        refine own_iconst (q := 47) A708 (0 : Int32) at_46 rfl ?_
        refine own_istore (q := 49) (L' := #[.val (.int i0), .val (.int i1), .val (.int i2), .val (.int i3), .val (.int (i0 &&& (3 : Int32))), .val (.int c), .unset, .unset, .val (.ref b699), .val (.int (4 : Int32)), .val (.int (0 : Int32))]) A708 at_47 rfl ?_
        refine own_aload (q := 51) (v := (.ref b699)) A708 at_49 rfl rfl ?_
        refine own_iload (q := 53) (v := (4 : Int32)) A708 at_51 rfl ?_
        refine own_iload (q := 55) (v := c) A708 at_53 rfl ?_
        refine own_stCv (q := 56) A708 V704 4 (by decide) (by decide) (by decide) (Nat.le_of_ble_eq_true rfl) g701 (Or.inr (Or.inr (Or.inr (by obtain ⟨c, q, _⟩ := V704; exact ⟨c, _, q, by decide⟩)))) at_55 ?_
        intro T986 h987 sl988 A989 W990 X991
        have f992 : Arv Z h987 b699 k700 .char (9 : Int32) [(.int (114 : Int32)), (.int (101 : Int32)), (.int (100 : Int32)), (.int (105 : Int32)), (.int (nar .char c)), (.int (101 : Int32)), (.int (99 : Int32)), (.int (116 : Int32)), (.int (115 : Int32))] (.int 0) := X991
        have f993 : Arv Z h987 b699 k700 .char (9 : Int32) [(.int (114 : Int32)), (.int (101 : Int32)), (.int (100 : Int32)), (.int (105 : Int32)), (.int c), (.int (101 : Int32)), (.int (99 : Int32)), (.int (116 : Int32)), (.int (115 : Int32))] (.int 0) := by
          have q := f992
          rw [hnc] at q
          exact q
        refine own_newO (q := 59) A989 (hw _ (List.mem_of_getElem? (i := 6) rfl)) (hw _ (List.mem_of_getElem? (i := 7) rfl)) (hw _ (List.mem_of_getElem? (i := 8) rfl)) at_56 (by decide) (by decide) ?_
        intro T994 h995 a996 g997 g998 A999 E1000 X1001 D1002
        have z1003 : b699 ≠ a996 := Nat.ne_of_lt (Nat.lt_of_lt_of_le f993.lt (Nat.le_of_eq g997))
        have f1004 : Arv Z h995 b699 k700 .char (9 : Int32) [(.int (114 : Int32)), (.int (101 : Int32)), (.int (100 : Int32)), (.int (105 : Int32)), (.int c), (.int (101 : Int32)), (.int (99 : Int32)), (.int (116 : Int32)), (.int (115 : Int32))] (.int 0) := f993.ext E1000
        have f1005 : Fld Z h995 a996 "java/lang/String" "value" "[B" .null := D1002 (Or.inr (hw _ (List.mem_of_getElem? (i := 34) rfl))) (ty := (.array .byte)) (by decide)
        have f1006 : Fld Z h995 a996 "java/lang/String" "coder" "B" (.int (0 : Int32)) := D1002 (Or.inr (hw _ (List.mem_of_getElem? (i := 32) rfl))) (ty := .byte) (by decide)
        refine own_dup (q := 60) A999 at_59 rfl ?_
        refine own_aload (q := 62) (v := (.ref b699)) A999 at_60 rfl rfl ?_
        refine own_special (q := 65) (W := 1) (argsL := [(.ref b699)]) (rest := [(.ref a996)]) A999 rfl (hw _ (List.mem_of_getElem? (i := 9) rfl)) (hw _ (List.mem_of_getElem? (i := 10) rfl)) (hw _ (List.mem_of_getElem? (i := 11) rfl)) (by decide) (own_payV (cs := [(114 : Int32), (101 : Int32), (100 : Int32), (105 : Int32), c, (101 : Int32), (99 : Int32), (116 : Int32), (115 : Int32)]) (bs := _) (n := 9) (N := 9) (kI := 4) (own_wV hw) (hw _ (List.mem_of_getElem? (i := 7) rfl)) A999.old g998 X1001 f1005 f1006 f1004 SC hz rfl rfl (by decide) (by decide) (own_fc (by decide) (own_fc (by decide) (own_fc (by decide) (own_fc (by decide) (own_fc ⟨hc0, hc1⟩ (own_fc (by decide) (own_fc (by decide) (own_fc (by decide) (own_fc (by decide) (fun _ z => nomatch z)))))))))) rfl (by decide) (by decide)) (by simp) (Nat.le_of_eq rfl) own_pd8 rfl rfl rfl at_62 (by decide) (by decide) ?_
        rintro v1016 T1017 h1018 A1019 ⟨rfl, K1007, E1008, C1009, t1010, k1011, g1012, g1013, V1014, K1015⟩
        show own_Run p e below Q m T1017 65 #[.val (.int i0), .val (.int i1), .val (.int i2), .val (.int i3), .val (.int (i0 &&& (3 : Int32))), .val (.int c), .unset, .unset, .val (.ref b699), .val (.int (4 : Int32)), .val (.int (0 : Int32))] [(.ref a996)]
        refine own_astore (q := 67) (L' := #[.val (.int i0), .val (.int i1), .val (.int i2), .val (.int i3), .val (.int (i0 &&& (3 : Int32))), .val (.int c), .val (.ref a996), .unset, .val (.ref b699), .val (.int (4 : Int32)), .val (.int (0 : Int32))]) A1019 at_65 rfl rfl ?_
        refine own_iload (q := 69) (v := (0 : Int32)) A1019 at_67 rfl ?_
        refine own_istore (q := 71) (L' := #[.val (.int i0), .val (.int i1), .val (.int i2), .val (.int i3), .val (.int (i0 &&& (3 : Int32))), .val (.int c), .val (.ref a996), .val (.int (0 : Int32)), .val (.ref b699), .val (.int (4 : Int32)), .val (.int (0 : Int32))]) A1019 at_69 rfl ?_
        refine own_goto (q := 232) A1019 at_71 ?_
        exact rm_tail0 l Z a0 hw zc dA uA a996 t1010 k1011 [(114 : Int32), (101 : Int32), (100 : Int32), (105 : Int32), c, (101 : Int32), (99 : Int32), (116 : Int32), (115 : Int32)] 9 _ h1018 n0 hEL SC hz SD SU E1008 V1014 C1009 K1015 (own_cod [(114 : Int32), (101 : Int32), (100 : Int32), (105 : Int32), c, (101 : Int32), (99 : Int32), (116 : Int32), (115 : Int32)] (n := 9) rfl (fun yy hy => ((show ∀ yy ∈ [(114 : Int32), (101 : Int32), (100 : Int32), (105 : Int32), c, (101 : Int32), (99 : Int32), (116 : Int32), (115 : Int32)], ¬ yy < 0 ∧ ¬ (255 : Int32) < yy from (own_fc (by decide) (own_fc (by decide) (own_fc (by decide) (own_fc (by decide) (own_fc ⟨hc0, hc1⟩ (own_fc (by decide) (own_fc (by decide) (own_fc (by decide) (own_fc (by decide) (fun _ z => nomatch z))))))))))) yy hy).2) rfl rfl) (own_b16 (own_fc (by decide) (own_fc (by decide) (own_fc (by decide) (own_fc (by decide) (own_fc ⟨hc0, hc1⟩ (own_fc (by decide) (own_fc (by decide) (own_fc (by decide) (own_fc (by decide) (fun _ z => nomatch z))))))))))) (Nat.le_of_ble_eq_true rfl) (by intro q; simp at q; exact c985 q.symm) (Or.inr (Or.inr ⟨_, rfl⟩)) (Or.inr (Or.inl ⟨_, rfl⟩)) hQ (A1019.up (by decide) (by decide))
      · rintro (c985 : (114 : Int32) = c)
        refine own_iconst (q := 43) A708 (1 : Int32) at_42 rfl ?_
        refine own_goto (q := 47) A708 at_43 ?_
        refine own_istore (q := 49) (L' := #[.val (.int i0), .val (.int i1), .val (.int i2), .val (.int i3), .val (.int (i0 &&& (3 : Int32))), .val (.int c), .unset, .unset, .val (.ref b699), .val (.int (4 : Int32)), .val (.int (1 : Int32))]) A708 at_47 rfl ?_
        refine own_aload (q := 51) (v := (.ref b699)) A708 at_49 rfl rfl ?_
        refine own_iload (q := 53) (v := (4 : Int32)) A708 at_51 rfl ?_
        refine own_iload (q := 55) (v := c) A708 at_53 rfl ?_
        refine own_stCv (q := 56) A708 V704 4 (by decide) (by decide) (by decide) (Nat.le_of_ble_eq_true rfl) g701 (Or.inr (Or.inr (Or.inr (by obtain ⟨c, q, _⟩ := V704; exact ⟨c, _, q, by decide⟩)))) at_55 ?_
        intro T1020 h1021 sl1022 A1023 W1024 X1025
        have f1026 : Arv Z h1021 b699 k700 .char (9 : Int32) [(.int (114 : Int32)), (.int (101 : Int32)), (.int (100 : Int32)), (.int (105 : Int32)), (.int (nar .char c)), (.int (101 : Int32)), (.int (99 : Int32)), (.int (116 : Int32)), (.int (115 : Int32))] (.int 0) := X1025
        have f1027 : Arv Z h1021 b699 k700 .char (9 : Int32) [(.int (114 : Int32)), (.int (101 : Int32)), (.int (100 : Int32)), (.int (105 : Int32)), (.int c), (.int (101 : Int32)), (.int (99 : Int32)), (.int (116 : Int32)), (.int (115 : Int32))] (.int 0) := by
          have q := f1026
          rw [hnc] at q
          exact q
        refine own_newO (q := 59) A1023 (hw _ (List.mem_of_getElem? (i := 6) rfl)) (hw _ (List.mem_of_getElem? (i := 7) rfl)) (hw _ (List.mem_of_getElem? (i := 8) rfl)) at_56 (by decide) (by decide) ?_
        intro T1028 h1029 a1030 g1031 g1032 A1033 E1034 X1035 D1036
        have z1037 : b699 ≠ a1030 := Nat.ne_of_lt (Nat.lt_of_lt_of_le f1027.lt (Nat.le_of_eq g1031))
        have f1038 : Arv Z h1029 b699 k700 .char (9 : Int32) [(.int (114 : Int32)), (.int (101 : Int32)), (.int (100 : Int32)), (.int (105 : Int32)), (.int c), (.int (101 : Int32)), (.int (99 : Int32)), (.int (116 : Int32)), (.int (115 : Int32))] (.int 0) := f1027.ext E1034
        have f1039 : Fld Z h1029 a1030 "java/lang/String" "value" "[B" .null := D1036 (Or.inr (hw _ (List.mem_of_getElem? (i := 34) rfl))) (ty := (.array .byte)) (by decide)
        have f1040 : Fld Z h1029 a1030 "java/lang/String" "coder" "B" (.int (0 : Int32)) := D1036 (Or.inr (hw _ (List.mem_of_getElem? (i := 32) rfl))) (ty := .byte) (by decide)
        refine own_dup (q := 60) A1033 at_59 rfl ?_
        refine own_aload (q := 62) (v := (.ref b699)) A1033 at_60 rfl rfl ?_
        refine own_special (q := 65) (W := 1) (argsL := [(.ref b699)]) (rest := [(.ref a1030)]) A1033 rfl (hw _ (List.mem_of_getElem? (i := 9) rfl)) (hw _ (List.mem_of_getElem? (i := 10) rfl)) (hw _ (List.mem_of_getElem? (i := 11) rfl)) (by decide) (own_payV (cs := [(114 : Int32), (101 : Int32), (100 : Int32), (105 : Int32), c, (101 : Int32), (99 : Int32), (116 : Int32), (115 : Int32)]) (bs := _) (n := 9) (N := 9) (kI := 4) (own_wV hw) (hw _ (List.mem_of_getElem? (i := 7) rfl)) A1033.old g1032 X1035 f1039 f1040 f1038 SC hz rfl rfl (by decide) (by decide) (own_fc (by decide) (own_fc (by decide) (own_fc (by decide) (own_fc (by decide) (own_fc ⟨hc0, hc1⟩ (own_fc (by decide) (own_fc (by decide) (own_fc (by decide) (own_fc (by decide) (fun _ z => nomatch z)))))))))) rfl (by decide) (by decide)) (by simp) (Nat.le_of_eq rfl) own_pd8 rfl rfl rfl at_62 (by decide) (by decide) ?_
        rintro v1050 T1051 h1052 A1053 ⟨rfl, K1041, E1042, C1043, t1044, k1045, g1046, g1047, V1048, K1049⟩
        show own_Run p e below Q m T1051 65 #[.val (.int i0), .val (.int i1), .val (.int i2), .val (.int i3), .val (.int (i0 &&& (3 : Int32))), .val (.int c), .unset, .unset, .val (.ref b699), .val (.int (4 : Int32)), .val (.int (1 : Int32))] [(.ref a1030)]
        refine own_astore (q := 67) (L' := #[.val (.int i0), .val (.int i1), .val (.int i2), .val (.int i3), .val (.int (i0 &&& (3 : Int32))), .val (.int c), .val (.ref a1030), .unset, .val (.ref b699), .val (.int (4 : Int32)), .val (.int (1 : Int32))]) A1053 at_65 rfl rfl ?_
        refine own_iload (q := 69) (v := (1 : Int32)) A1053 at_67 rfl ?_
        refine own_istore (q := 71) (L' := #[.val (.int i0), .val (.int i1), .val (.int i2), .val (.int i3), .val (.int (i0 &&& (3 : Int32))), .val (.int c), .val (.ref a1030), .val (.int (1 : Int32)), .val (.ref b699), .val (.int (4 : Int32)), .val (.int (1 : Int32))]) A1053 at_69 rfl ?_
        refine own_goto (q := 232) A1053 at_71 ?_
        exact rm_tail1 l Z a0 hw zc dA uA a1030 t1044 k1045 [(114 : Int32), (101 : Int32), (100 : Int32), (105 : Int32), c, (101 : Int32), (99 : Int32), (116 : Int32), (115 : Int32)] 9 _ h1052 n0 hEL SC hz SD SU E1042 V1048 C1043 K1049 (own_cod [(114 : Int32), (101 : Int32), (100 : Int32), (105 : Int32), c, (101 : Int32), (99 : Int32), (116 : Int32), (115 : Int32)] (n := 9) rfl (fun yy hy => ((show ∀ yy ∈ [(114 : Int32), (101 : Int32), (100 : Int32), (105 : Int32), c, (101 : Int32), (99 : Int32), (116 : Int32), (115 : Int32)], ¬ yy < 0 ∧ ¬ (255 : Int32) < yy from (own_fc (by decide) (own_fc (by decide) (own_fc (by decide) (own_fc (by decide) (own_fc ⟨hc0, hc1⟩ (own_fc (by decide) (own_fc (by decide) (own_fc (by decide) (own_fc (by decide) (fun _ z => nomatch z))))))))))) yy hy).2) rfl rfl) (own_b16 (own_fc (by decide) (own_fc (by decide) (own_fc (by decide) (own_fc (by decide) (own_fc ⟨hc0, hc1⟩ (own_fc (by decide) (own_fc (by decide) (own_fc (by decide) (own_fc (by decide) (fun _ z => nomatch z))))))))))) (Nat.le_of_ble_eq_true rfl) (by rw [← c985]) (Or.inr (Or.inr ⟨_, rfl⟩)) (Or.inr (Or.inl ⟨_, rfl⟩)) hQ (A1053.up (by decide) (by decide))
    · rw [qk]
      refine own_istore (q := 32) (L' := #[.val (.int i0), .val (.int i1), .val (.int i2), .val (.int i3), .val (.int (i0 &&& (3 : Int32))), .val (.int c), .unset, .unset, .val (.ref b699), .val (.int (5 : Int32)), .unset]) A708 at_30 rfl ?_
      refine own_aload (q := 34) (v := (.ref b699)) A708 at_32 rfl rfl ?_
      refine own_iload (q := 36) (v := (5 : Int32)) A708 at_34 rfl ?_
      refine own_caloadv (q := 37) (v := (.int (101 : Int32))) A708 V704 5 (by decide) (by decide) (by decide) rfl at_36 ?_
      refine own_iload (q := 39) (v := c) A708 at_37 rfl ?_
      refine own_icmp (q := 46) (q' := 42) A708 at_39 ?_ ?_
      · rintro (c1054 : ¬ (101 : Int32) = c)
        refine own_iconst (q := 47) A708 (0 : Int32) at_46 rfl ?_
        refine own_istore (q := 49) (L' := #[.val (.int i0), .val (.int i1), .val (.int i2), .val (.int i3), .val (.int (i0 &&& (3 : Int32))), .val (.int c), .unset, .unset, .val (.ref b699), .val (.int (5 : Int32)), .val (.int (0 : Int32))]) A708 at_47 rfl ?_
        refine own_aload (q := 51) (v := (.ref b699)) A708 at_49 rfl rfl ?_
        refine own_iload (q := 53) (v := (5 : Int32)) A708 at_51 rfl ?_
        refine own_iload (q := 55) (v := c) A708 at_53 rfl ?_
        refine own_stCv (q := 56) A708 V704 5 (by decide) (by decide) (by decide) (Nat.le_of_ble_eq_true rfl) g701 (Or.inr (Or.inr (Or.inr (by obtain ⟨c, q, _⟩ := V704; exact ⟨c, _, q, by decide⟩)))) at_55 ?_
        intro T1055 h1056 sl1057 A1058 W1059 X1060
        have f1061 : Arv Z h1056 b699 k700 .char (9 : Int32) [(.int (114 : Int32)), (.int (101 : Int32)), (.int (100 : Int32)), (.int (105 : Int32)), (.int (114 : Int32)), (.int (nar .char c)), (.int (99 : Int32)), (.int (116 : Int32)), (.int (115 : Int32))] (.int 0) := X1060
        have f1062 : Arv Z h1056 b699 k700 .char (9 : Int32) [(.int (114 : Int32)), (.int (101 : Int32)), (.int (100 : Int32)), (.int (105 : Int32)), (.int (114 : Int32)), (.int c), (.int (99 : Int32)), (.int (116 : Int32)), (.int (115 : Int32))] (.int 0) := by
          have q := f1061
          rw [hnc] at q
          exact q
        refine own_newO (q := 59) A1058 (hw _ (List.mem_of_getElem? (i := 6) rfl)) (hw _ (List.mem_of_getElem? (i := 7) rfl)) (hw _ (List.mem_of_getElem? (i := 8) rfl)) at_56 (by decide) (by decide) ?_
        intro T1063 h1064 a1065 g1066 g1067 A1068 E1069 X1070 D1071
        have z1072 : b699 ≠ a1065 := Nat.ne_of_lt (Nat.lt_of_lt_of_le f1062.lt (Nat.le_of_eq g1066))
        have f1073 : Arv Z h1064 b699 k700 .char (9 : Int32) [(.int (114 : Int32)), (.int (101 : Int32)), (.int (100 : Int32)), (.int (105 : Int32)), (.int (114 : Int32)), (.int c), (.int (99 : Int32)), (.int (116 : Int32)), (.int (115 : Int32))] (.int 0) := f1062.ext E1069
        have f1074 : Fld Z h1064 a1065 "java/lang/String" "value" "[B" .null := D1071 (Or.inr (hw _ (List.mem_of_getElem? (i := 34) rfl))) (ty := (.array .byte)) (by decide)
        have f1075 : Fld Z h1064 a1065 "java/lang/String" "coder" "B" (.int (0 : Int32)) := D1071 (Or.inr (hw _ (List.mem_of_getElem? (i := 32) rfl))) (ty := .byte) (by decide)
        refine own_dup (q := 60) A1068 at_59 rfl ?_
        refine own_aload (q := 62) (v := (.ref b699)) A1068 at_60 rfl rfl ?_
        refine own_special (q := 65) (W := 1) (argsL := [(.ref b699)]) (rest := [(.ref a1065)]) A1068 rfl (hw _ (List.mem_of_getElem? (i := 9) rfl)) (hw _ (List.mem_of_getElem? (i := 10) rfl)) (hw _ (List.mem_of_getElem? (i := 11) rfl)) (by decide) (own_payV (cs := [(114 : Int32), (101 : Int32), (100 : Int32), (105 : Int32), (114 : Int32), c, (99 : Int32), (116 : Int32), (115 : Int32)]) (bs := _) (n := 9) (N := 9) (kI := 4) (own_wV hw) (hw _ (List.mem_of_getElem? (i := 7) rfl)) A1068.old g1067 X1070 f1074 f1075 f1073 SC hz rfl rfl (by decide) (by decide) (own_fc (by decide) (own_fc (by decide) (own_fc (by decide) (own_fc (by decide) (own_fc (by decide) (own_fc ⟨hc0, hc1⟩ (own_fc (by decide) (own_fc (by decide) (own_fc (by decide) (fun _ z => nomatch z)))))))))) rfl (by decide) (by decide)) (by simp) (Nat.le_of_eq rfl) own_pd8 rfl rfl rfl at_62 (by decide) (by decide) ?_
        rintro v1085 T1086 h1087 A1088 ⟨rfl, K1076, E1077, C1078, t1079, k1080, g1081, g1082, V1083, K1084⟩
        show own_Run p e below Q m T1086 65 #[.val (.int i0), .val (.int i1), .val (.int i2), .val (.int i3), .val (.int (i0 &&& (3 : Int32))), .val (.int c), .unset, .unset, .val (.ref b699), .val (.int (5 : Int32)), .val (.int (0 : Int32))] [(.ref a1065)]
        refine own_astore (q := 67) (L' := #[.val (.int i0), .val (.int i1), .val (.int i2), .val (.int i3), .val (.int (i0 &&& (3 : Int32))), .val (.int c), .val (.ref a1065), .unset, .val (.ref b699), .val (.int (5 : Int32)), .val (.int (0 : Int32))]) A1088 at_65 rfl rfl ?_
        refine own_iload (q := 69) (v := (0 : Int32)) A1088 at_67 rfl ?_
        refine own_istore (q := 71) (L' := #[.val (.int i0), .val (.int i1), .val (.int i2), .val (.int i3), .val (.int (i0 &&& (3 : Int32))), .val (.int c), .val (.ref a1065), .val (.int (0 : Int32)), .val (.ref b699), .val (.int (5 : Int32)), .val (.int (0 : Int32))]) A1088 at_69 rfl ?_
        refine own_goto (q := 232) A1088 at_71 ?_
        exact rm_tail0 l Z a0 hw zc dA uA a1065 t1079 k1080 [(114 : Int32), (101 : Int32), (100 : Int32), (105 : Int32), (114 : Int32), c, (99 : Int32), (116 : Int32), (115 : Int32)] 9 _ h1087 n0 hEL SC hz SD SU E1077 V1083 C1078 K1084 (own_cod [(114 : Int32), (101 : Int32), (100 : Int32), (105 : Int32), (114 : Int32), c, (99 : Int32), (116 : Int32), (115 : Int32)] (n := 9) rfl (fun yy hy => ((show ∀ yy ∈ [(114 : Int32), (101 : Int32), (100 : Int32), (105 : Int32), (114 : Int32), c, (99 : Int32), (116 : Int32), (115 : Int32)], ¬ yy < 0 ∧ ¬ (255 : Int32) < yy from (own_fc (by decide) (own_fc (by decide) (own_fc (by decide) (own_fc (by decide) (own_fc (by decide) (own_fc ⟨hc0, hc1⟩ (own_fc (by decide) (own_fc (by decide) (own_fc (by decide) (fun _ z => nomatch z))))))))))) yy hy).2) rfl rfl) (own_b16 (own_fc (by decide) (own_fc (by decide) (own_fc (by decide) (own_fc (by decide) (own_fc (by decide) (own_fc ⟨hc0, hc1⟩ (own_fc (by decide) (own_fc (by decide) (own_fc (by decide) (fun _ z => nomatch z))))))))))) (Nat.le_of_ble_eq_true rfl) (by intro q; simp at q; exact c1054 q.symm) (Or.inr (Or.inr ⟨_, rfl⟩)) (Or.inr (Or.inl ⟨_, rfl⟩)) hQ (A1088.up (by decide) (by decide))
      · rintro (c1054 : (101 : Int32) = c)
        refine own_iconst (q := 43) A708 (1 : Int32) at_42 rfl ?_
        refine own_goto (q := 47) A708 at_43 ?_
        refine own_istore (q := 49) (L' := #[.val (.int i0), .val (.int i1), .val (.int i2), .val (.int i3), .val (.int (i0 &&& (3 : Int32))), .val (.int c), .unset, .unset, .val (.ref b699), .val (.int (5 : Int32)), .val (.int (1 : Int32))]) A708 at_47 rfl ?_
        refine own_aload (q := 51) (v := (.ref b699)) A708 at_49 rfl rfl ?_
        refine own_iload (q := 53) (v := (5 : Int32)) A708 at_51 rfl ?_
        refine own_iload (q := 55) (v := c) A708 at_53 rfl ?_
        refine own_stCv (q := 56) A708 V704 5 (by decide) (by decide) (by decide) (Nat.le_of_ble_eq_true rfl) g701 (Or.inr (Or.inr (Or.inr (by obtain ⟨c, q, _⟩ := V704; exact ⟨c, _, q, by decide⟩)))) at_55 ?_
        intro T1089 h1090 sl1091 A1092 W1093 X1094
        have f1095 : Arv Z h1090 b699 k700 .char (9 : Int32) [(.int (114 : Int32)), (.int (101 : Int32)), (.int (100 : Int32)), (.int (105 : Int32)), (.int (114 : Int32)), (.int (nar .char c)), (.int (99 : Int32)), (.int (116 : Int32)), (.int (115 : Int32))] (.int 0) := X1094
        have f1096 : Arv Z h1090 b699 k700 .char (9 : Int32) [(.int (114 : Int32)), (.int (101 : Int32)), (.int (100 : Int32)), (.int (105 : Int32)), (.int (114 : Int32)), (.int c), (.int (99 : Int32)), (.int (116 : Int32)), (.int (115 : Int32))] (.int 0) := by
          have q := f1095
          rw [hnc] at q
          exact q
        refine own_newO (q := 59) A1092 (hw _ (List.mem_of_getElem? (i := 6) rfl)) (hw _ (List.mem_of_getElem? (i := 7) rfl)) (hw _ (List.mem_of_getElem? (i := 8) rfl)) at_56 (by decide) (by decide) ?_
        intro T1097 h1098 a1099 g1100 g1101 A1102 E1103 X1104 D1105
        have z1106 : b699 ≠ a1099 := Nat.ne_of_lt (Nat.lt_of_lt_of_le f1096.lt (Nat.le_of_eq g1100))
        have f1107 : Arv Z h1098 b699 k700 .char (9 : Int32) [(.int (114 : Int32)), (.int (101 : Int32)), (.int (100 : Int32)), (.int (105 : Int32)), (.int (114 : Int32)), (.int c), (.int (99 : Int32)), (.int (116 : Int32)), (.int (115 : Int32))] (.int 0) := f1096.ext E1103
        have f1108 : Fld Z h1098 a1099 "java/lang/String" "value" "[B" .null := D1105 (Or.inr (hw _ (List.mem_of_getElem? (i := 34) rfl))) (ty := (.array .byte)) (by decide)
        have f1109 : Fld Z h1098 a1099 "java/lang/String" "coder" "B" (.int (0 : Int32)) := D1105 (Or.inr (hw _ (List.mem_of_getElem? (i := 32) rfl))) (ty := .byte) (by decide)
        refine own_dup (q := 60) A1102 at_59 rfl ?_
        refine own_aload (q := 62) (v := (.ref b699)) A1102 at_60 rfl rfl ?_
        refine own_special (q := 65) (W := 1) (argsL := [(.ref b699)]) (rest := [(.ref a1099)]) A1102 rfl (hw _ (List.mem_of_getElem? (i := 9) rfl)) (hw _ (List.mem_of_getElem? (i := 10) rfl)) (hw _ (List.mem_of_getElem? (i := 11) rfl)) (by decide) (own_payV (cs := [(114 : Int32), (101 : Int32), (100 : Int32), (105 : Int32), (114 : Int32), c, (99 : Int32), (116 : Int32), (115 : Int32)]) (bs := _) (n := 9) (N := 9) (kI := 4) (own_wV hw) (hw _ (List.mem_of_getElem? (i := 7) rfl)) A1102.old g1101 X1104 f1108 f1109 f1107 SC hz rfl rfl (by decide) (by decide) (own_fc (by decide) (own_fc (by decide) (own_fc (by decide) (own_fc (by decide) (own_fc (by decide) (own_fc ⟨hc0, hc1⟩ (own_fc (by decide) (own_fc (by decide) (own_fc (by decide) (fun _ z => nomatch z)))))))))) rfl (by decide) (by decide)) (by simp) (Nat.le_of_eq rfl) own_pd8 rfl rfl rfl at_62 (by decide) (by decide) ?_
        rintro v1119 T1120 h1121 A1122 ⟨rfl, K1110, E1111, C1112, t1113, k1114, g1115, g1116, V1117, K1118⟩
        show own_Run p e below Q m T1120 65 #[.val (.int i0), .val (.int i1), .val (.int i2), .val (.int i3), .val (.int (i0 &&& (3 : Int32))), .val (.int c), .unset, .unset, .val (.ref b699), .val (.int (5 : Int32)), .val (.int (1 : Int32))] [(.ref a1099)]
        refine own_astore (q := 67) (L' := #[.val (.int i0), .val (.int i1), .val (.int i2), .val (.int i3), .val (.int (i0 &&& (3 : Int32))), .val (.int c), .val (.ref a1099), .unset, .val (.ref b699), .val (.int (5 : Int32)), .val (.int (1 : Int32))]) A1122 at_65 rfl rfl ?_
        refine own_iload (q := 69) (v := (1 : Int32)) A1122 at_67 rfl ?_
        refine own_istore (q := 71) (L' := #[.val (.int i0), .val (.int i1), .val (.int i2), .val (.int i3), .val (.int (i0 &&& (3 : Int32))), .val (.int c), .val (.ref a1099), .val (.int (1 : Int32)), .val (.ref b699), .val (.int (5 : Int32)), .val (.int (1 : Int32))]) A1122 at_69 rfl ?_
        refine own_goto (q := 232) A1122 at_71 ?_
        exact rm_tail1 l Z a0 hw zc dA uA a1099 t1113 k1114 [(114 : Int32), (101 : Int32), (100 : Int32), (105 : Int32), (114 : Int32), c, (99 : Int32), (116 : Int32), (115 : Int32)] 9 _ h1121 n0 hEL SC hz SD SU E1111 V1117 C1112 K1118 (own_cod [(114 : Int32), (101 : Int32), (100 : Int32), (105 : Int32), (114 : Int32), c, (99 : Int32), (116 : Int32), (115 : Int32)] (n := 9) rfl (fun yy hy => ((show ∀ yy ∈ [(114 : Int32), (101 : Int32), (100 : Int32), (105 : Int32), (114 : Int32), c, (99 : Int32), (116 : Int32), (115 : Int32)], ¬ yy < 0 ∧ ¬ (255 : Int32) < yy from (own_fc (by decide) (own_fc (by decide) (own_fc (by decide) (own_fc (by decide) (own_fc (by decide) (own_fc ⟨hc0, hc1⟩ (own_fc (by decide) (own_fc (by decide) (own_fc (by decide) (fun _ z => nomatch z))))))))))) yy hy).2) rfl rfl) (own_b16 (own_fc (by decide) (own_fc (by decide) (own_fc (by decide) (own_fc (by decide) (own_fc (by decide) (own_fc ⟨hc0, hc1⟩ (own_fc (by decide) (own_fc (by decide) (own_fc (by decide) (fun _ z => nomatch z))))))))))) (Nat.le_of_ble_eq_true rfl) (by rw [← c1054]) (Or.inr (Or.inr ⟨_, rfl⟩)) (Or.inr (Or.inl ⟨_, rfl⟩)) hQ (A1122.up (by decide) (by decide))
    · rw [qk]
      refine own_istore (q := 32) (L' := #[.val (.int i0), .val (.int i1), .val (.int i2), .val (.int i3), .val (.int (i0 &&& (3 : Int32))), .val (.int c), .unset, .unset, .val (.ref b699), .val (.int (6 : Int32)), .unset]) A708 at_30 rfl ?_
      refine own_aload (q := 34) (v := (.ref b699)) A708 at_32 rfl rfl ?_
      refine own_iload (q := 36) (v := (6 : Int32)) A708 at_34 rfl ?_
      refine own_caloadv (q := 37) (v := (.int (99 : Int32))) A708 V704 6 (by decide) (by decide) (by decide) rfl at_36 ?_
      refine own_iload (q := 39) (v := c) A708 at_37 rfl ?_
      refine own_icmp (q := 46) (q' := 42) A708 at_39 ?_ ?_
      · rintro (c1123 : ¬ (99 : Int32) = c)
        refine own_iconst (q := 47) A708 (0 : Int32) at_46 rfl ?_
        refine own_istore (q := 49) (L' := #[.val (.int i0), .val (.int i1), .val (.int i2), .val (.int i3), .val (.int (i0 &&& (3 : Int32))), .val (.int c), .unset, .unset, .val (.ref b699), .val (.int (6 : Int32)), .val (.int (0 : Int32))]) A708 at_47 rfl ?_
        refine own_aload (q := 51) (v := (.ref b699)) A708 at_49 rfl rfl ?_
        refine own_iload (q := 53) (v := (6 : Int32)) A708 at_51 rfl ?_
        refine own_iload (q := 55) (v := c) A708 at_53 rfl ?_
        refine own_stCv (q := 56) A708 V704 6 (by decide) (by decide) (by decide) (Nat.le_of_ble_eq_true rfl) g701 (Or.inr (Or.inr (Or.inr (by obtain ⟨c, q, _⟩ := V704; exact ⟨c, _, q, by decide⟩)))) at_55 ?_
        intro T1124 h1125 sl1126 A1127 W1128 X1129
        have f1130 : Arv Z h1125 b699 k700 .char (9 : Int32) [(.int (114 : Int32)), (.int (101 : Int32)), (.int (100 : Int32)), (.int (105 : Int32)), (.int (114 : Int32)), (.int (101 : Int32)), (.int (nar .char c)), (.int (116 : Int32)), (.int (115 : Int32))] (.int 0) := X1129
        have f1131 : Arv Z h1125 b699 k700 .char (9 : Int32) [(.int (114 : Int32)), (.int (101 : Int32)), (.int (100 : Int32)), (.int (105 : Int32)), (.int (114 : Int32)), (.int (101 : Int32)), (.int c), (.int (116 : Int32)), (.int (115 : Int32))] (.int 0) := by
          have q := f1130
          rw [hnc] at q
          exact q
        refine own_newO (q := 59) A1127 (hw _ (List.mem_of_getElem? (i := 6) rfl)) (hw _ (List.mem_of_getElem? (i := 7) rfl)) (hw _ (List.mem_of_getElem? (i := 8) rfl)) at_56 (by decide) (by decide) ?_
        intro T1132 h1133 a1134 g1135 g1136 A1137 E1138 X1139 D1140
        have z1141 : b699 ≠ a1134 := Nat.ne_of_lt (Nat.lt_of_lt_of_le f1131.lt (Nat.le_of_eq g1135))
        have f1142 : Arv Z h1133 b699 k700 .char (9 : Int32) [(.int (114 : Int32)), (.int (101 : Int32)), (.int (100 : Int32)), (.int (105 : Int32)), (.int (114 : Int32)), (.int (101 : Int32)), (.int c), (.int (116 : Int32)), (.int (115 : Int32))] (.int 0) := f1131.ext E1138
        have f1143 : Fld Z h1133 a1134 "java/lang/String" "value" "[B" .null := D1140 (Or.inr (hw _ (List.mem_of_getElem? (i := 34) rfl))) (ty := (.array .byte)) (by decide)
        have f1144 : Fld Z h1133 a1134 "java/lang/String" "coder" "B" (.int (0 : Int32)) := D1140 (Or.inr (hw _ (List.mem_of_getElem? (i := 32) rfl))) (ty := .byte) (by decide)
        refine own_dup (q := 60) A1137 at_59 rfl ?_
        refine own_aload (q := 62) (v := (.ref b699)) A1137 at_60 rfl rfl ?_
        refine own_special (q := 65) (W := 1) (argsL := [(.ref b699)]) (rest := [(.ref a1134)]) A1137 rfl (hw _ (List.mem_of_getElem? (i := 9) rfl)) (hw _ (List.mem_of_getElem? (i := 10) rfl)) (hw _ (List.mem_of_getElem? (i := 11) rfl)) (by decide) (own_payV (cs := [(114 : Int32), (101 : Int32), (100 : Int32), (105 : Int32), (114 : Int32), (101 : Int32), c, (116 : Int32), (115 : Int32)]) (bs := _) (n := 9) (N := 9) (kI := 4) (own_wV hw) (hw _ (List.mem_of_getElem? (i := 7) rfl)) A1137.old g1136 X1139 f1143 f1144 f1142 SC hz rfl rfl (by decide) (by decide) (own_fc (by decide) (own_fc (by decide) (own_fc (by decide) (own_fc (by decide) (own_fc (by decide) (own_fc (by decide) (own_fc ⟨hc0, hc1⟩ (own_fc (by decide) (own_fc (by decide) (fun _ z => nomatch z)))))))))) rfl (by decide) (by decide)) (by simp) (Nat.le_of_eq rfl) own_pd8 rfl rfl rfl at_62 (by decide) (by decide) ?_
        rintro v1154 T1155 h1156 A1157 ⟨rfl, K1145, E1146, C1147, t1148, k1149, g1150, g1151, V1152, K1153⟩
        show own_Run p e below Q m T1155 65 #[.val (.int i0), .val (.int i1), .val (.int i2), .val (.int i3), .val (.int (i0 &&& (3 : Int32))), .val (.int c), .unset, .unset, .val (.ref b699), .val (.int (6 : Int32)), .val (.int (0 : Int32))] [(.ref a1134)]
        refine own_astore (q := 67) (L' := #[.val (.int i0), .val (.int i1), .val (.int i2), .val (.int i3), .val (.int (i0 &&& (3 : Int32))), .val (.int c), .val (.ref a1134), .unset, .val (.ref b699), .val (.int (6 : Int32)), .val (.int (0 : Int32))]) A1157 at_65 rfl rfl ?_
        refine own_iload (q := 69) (v := (0 : Int32)) A1157 at_67 rfl ?_
        refine own_istore (q := 71) (L' := #[.val (.int i0), .val (.int i1), .val (.int i2), .val (.int i3), .val (.int (i0 &&& (3 : Int32))), .val (.int c), .val (.ref a1134), .val (.int (0 : Int32)), .val (.ref b699), .val (.int (6 : Int32)), .val (.int (0 : Int32))]) A1157 at_69 rfl ?_
        refine own_goto (q := 232) A1157 at_71 ?_
        exact rm_tail0 l Z a0 hw zc dA uA a1134 t1148 k1149 [(114 : Int32), (101 : Int32), (100 : Int32), (105 : Int32), (114 : Int32), (101 : Int32), c, (116 : Int32), (115 : Int32)] 9 _ h1156 n0 hEL SC hz SD SU E1146 V1152 C1147 K1153 (own_cod [(114 : Int32), (101 : Int32), (100 : Int32), (105 : Int32), (114 : Int32), (101 : Int32), c, (116 : Int32), (115 : Int32)] (n := 9) rfl (fun yy hy => ((show ∀ yy ∈ [(114 : Int32), (101 : Int32), (100 : Int32), (105 : Int32), (114 : Int32), (101 : Int32), c, (116 : Int32), (115 : Int32)], ¬ yy < 0 ∧ ¬ (255 : Int32) < yy from (own_fc (by decide) (own_fc (by decide) (own_fc (by decide) (own_fc (by decide) (own_fc (by decide) (own_fc (by decide) (own_fc ⟨hc0, hc1⟩ (own_fc (by decide) (own_fc (by decide) (fun _ z => nomatch z))))))))))) yy hy).2) rfl rfl) (own_b16 (own_fc (by decide) (own_fc (by decide) (own_fc (by decide) (own_fc (by decide) (own_fc (by decide) (own_fc (by decide) (own_fc ⟨hc0, hc1⟩ (own_fc (by decide) (own_fc (by decide) (fun _ z => nomatch z))))))))))) (Nat.le_of_ble_eq_true rfl) (by intro q; simp at q; exact c1123 q.symm) (Or.inr (Or.inr ⟨_, rfl⟩)) (Or.inr (Or.inl ⟨_, rfl⟩)) hQ (A1157.up (by decide) (by decide))
      · rintro (c1123 : (99 : Int32) = c)
        refine own_iconst (q := 43) A708 (1 : Int32) at_42 rfl ?_
        refine own_goto (q := 47) A708 at_43 ?_
        refine own_istore (q := 49) (L' := #[.val (.int i0), .val (.int i1), .val (.int i2), .val (.int i3), .val (.int (i0 &&& (3 : Int32))), .val (.int c), .unset, .unset, .val (.ref b699), .val (.int (6 : Int32)), .val (.int (1 : Int32))]) A708 at_47 rfl ?_
        refine own_aload (q := 51) (v := (.ref b699)) A708 at_49 rfl rfl ?_
        refine own_iload (q := 53) (v := (6 : Int32)) A708 at_51 rfl ?_
        refine own_iload (q := 55) (v := c) A708 at_53 rfl ?_
        refine own_stCv (q := 56) A708 V704 6 (by decide) (by decide) (by decide) (Nat.le_of_ble_eq_true rfl) g701 (Or.inr (Or.inr (Or.inr (by obtain ⟨c, q, _⟩ := V704; exact ⟨c, _, q, by decide⟩)))) at_55 ?_
        intro T1158 h1159 sl1160 A1161 W1162 X1163
        have f1164 : Arv Z h1159 b699 k700 .char (9 : Int32) [(.int (114 : Int32)), (.int (101 : Int32)), (.int (100 : Int32)), (.int (105 : Int32)), (.int (114 : Int32)), (.int (101 : Int32)), (.int (nar .char c)), (.int (116 : Int32)), (.int (115 : Int32))] (.int 0) := X1163
        have f1165 : Arv Z h1159 b699 k700 .char (9 : Int32) [(.int (114 : Int32)), (.int (101 : Int32)), (.int (100 : Int32)), (.int (105 : Int32)), (.int (114 : Int32)), (.int (101 : Int32)), (.int c), (.int (116 : Int32)), (.int (115 : Int32))] (.int 0) := by
          have q := f1164
          rw [hnc] at q
          exact q
        refine own_newO (q := 59) A1161 (hw _ (List.mem_of_getElem? (i := 6) rfl)) (hw _ (List.mem_of_getElem? (i := 7) rfl)) (hw _ (List.mem_of_getElem? (i := 8) rfl)) at_56 (by decide) (by decide) ?_
        intro T1166 h1167 a1168 g1169 g1170 A1171 E1172 X1173 D1174
        have z1175 : b699 ≠ a1168 := Nat.ne_of_lt (Nat.lt_of_lt_of_le f1165.lt (Nat.le_of_eq g1169))
        have f1176 : Arv Z h1167 b699 k700 .char (9 : Int32) [(.int (114 : Int32)), (.int (101 : Int32)), (.int (100 : Int32)), (.int (105 : Int32)), (.int (114 : Int32)), (.int (101 : Int32)), (.int c), (.int (116 : Int32)), (.int (115 : Int32))] (.int 0) := f1165.ext E1172
        have f1177 : Fld Z h1167 a1168 "java/lang/String" "value" "[B" .null := D1174 (Or.inr (hw _ (List.mem_of_getElem? (i := 34) rfl))) (ty := (.array .byte)) (by decide)
        have f1178 : Fld Z h1167 a1168 "java/lang/String" "coder" "B" (.int (0 : Int32)) := D1174 (Or.inr (hw _ (List.mem_of_getElem? (i := 32) rfl))) (ty := .byte) (by decide)
        refine own_dup (q := 60) A1171 at_59 rfl ?_
        refine own_aload (q := 62) (v := (.ref b699)) A1171 at_60 rfl rfl ?_
        refine own_special (q := 65) (W := 1) (argsL := [(.ref b699)]) (rest := [(.ref a1168)]) A1171 rfl (hw _ (List.mem_of_getElem? (i := 9) rfl)) (hw _ (List.mem_of_getElem? (i := 10) rfl)) (hw _ (List.mem_of_getElem? (i := 11) rfl)) (by decide) (own_payV (cs := [(114 : Int32), (101 : Int32), (100 : Int32), (105 : Int32), (114 : Int32), (101 : Int32), c, (116 : Int32), (115 : Int32)]) (bs := _) (n := 9) (N := 9) (kI := 4) (own_wV hw) (hw _ (List.mem_of_getElem? (i := 7) rfl)) A1171.old g1170 X1173 f1177 f1178 f1176 SC hz rfl rfl (by decide) (by decide) (own_fc (by decide) (own_fc (by decide) (own_fc (by decide) (own_fc (by decide) (own_fc (by decide) (own_fc (by decide) (own_fc ⟨hc0, hc1⟩ (own_fc (by decide) (own_fc (by decide) (fun _ z => nomatch z)))))))))) rfl (by decide) (by decide)) (by simp) (Nat.le_of_eq rfl) own_pd8 rfl rfl rfl at_62 (by decide) (by decide) ?_
        rintro v1188 T1189 h1190 A1191 ⟨rfl, K1179, E1180, C1181, t1182, k1183, g1184, g1185, V1186, K1187⟩
        show own_Run p e below Q m T1189 65 #[.val (.int i0), .val (.int i1), .val (.int i2), .val (.int i3), .val (.int (i0 &&& (3 : Int32))), .val (.int c), .unset, .unset, .val (.ref b699), .val (.int (6 : Int32)), .val (.int (1 : Int32))] [(.ref a1168)]
        refine own_astore (q := 67) (L' := #[.val (.int i0), .val (.int i1), .val (.int i2), .val (.int i3), .val (.int (i0 &&& (3 : Int32))), .val (.int c), .val (.ref a1168), .unset, .val (.ref b699), .val (.int (6 : Int32)), .val (.int (1 : Int32))]) A1191 at_65 rfl rfl ?_
        refine own_iload (q := 69) (v := (1 : Int32)) A1191 at_67 rfl ?_
        refine own_istore (q := 71) (L' := #[.val (.int i0), .val (.int i1), .val (.int i2), .val (.int i3), .val (.int (i0 &&& (3 : Int32))), .val (.int c), .val (.ref a1168), .val (.int (1 : Int32)), .val (.ref b699), .val (.int (6 : Int32)), .val (.int (1 : Int32))]) A1191 at_69 rfl ?_
        refine own_goto (q := 232) A1191 at_71 ?_
        exact rm_tail1 l Z a0 hw zc dA uA a1168 t1182 k1183 [(114 : Int32), (101 : Int32), (100 : Int32), (105 : Int32), (114 : Int32), (101 : Int32), c, (116 : Int32), (115 : Int32)] 9 _ h1190 n0 hEL SC hz SD SU E1180 V1186 C1181 K1187 (own_cod [(114 : Int32), (101 : Int32), (100 : Int32), (105 : Int32), (114 : Int32), (101 : Int32), c, (116 : Int32), (115 : Int32)] (n := 9) rfl (fun yy hy => ((show ∀ yy ∈ [(114 : Int32), (101 : Int32), (100 : Int32), (105 : Int32), (114 : Int32), (101 : Int32), c, (116 : Int32), (115 : Int32)], ¬ yy < 0 ∧ ¬ (255 : Int32) < yy from (own_fc (by decide) (own_fc (by decide) (own_fc (by decide) (own_fc (by decide) (own_fc (by decide) (own_fc (by decide) (own_fc ⟨hc0, hc1⟩ (own_fc (by decide) (own_fc (by decide) (fun _ z => nomatch z))))))))))) yy hy).2) rfl rfl) (own_b16 (own_fc (by decide) (own_fc (by decide) (own_fc (by decide) (own_fc (by decide) (own_fc (by decide) (own_fc (by decide) (own_fc ⟨hc0, hc1⟩ (own_fc (by decide) (own_fc (by decide) (fun _ z => nomatch z))))))))))) (Nat.le_of_ble_eq_true rfl) (by rw [← c1123]) (Or.inr (Or.inr ⟨_, rfl⟩)) (Or.inr (Or.inl ⟨_, rfl⟩)) hQ (A1191.up (by decide) (by decide))
    · rw [qk]
      refine own_istore (q := 32) (L' := #[.val (.int i0), .val (.int i1), .val (.int i2), .val (.int i3), .val (.int (i0 &&& (3 : Int32))), .val (.int c), .unset, .unset, .val (.ref b699), .val (.int (7 : Int32)), .unset]) A708 at_30 rfl ?_
      refine own_aload (q := 34) (v := (.ref b699)) A708 at_32 rfl rfl ?_
      refine own_iload (q := 36) (v := (7 : Int32)) A708 at_34 rfl ?_
      refine own_caloadv (q := 37) (v := (.int (116 : Int32))) A708 V704 7 (by decide) (by decide) (by decide) rfl at_36 ?_
      refine own_iload (q := 39) (v := c) A708 at_37 rfl ?_
      refine own_icmp (q := 46) (q' := 42) A708 at_39 ?_ ?_
      · rintro (c1192 : ¬ (116 : Int32) = c)
        refine own_iconst (q := 47) A708 (0 : Int32) at_46 rfl ?_
        refine own_istore (q := 49) (L' := #[.val (.int i0), .val (.int i1), .val (.int i2), .val (.int i3), .val (.int (i0 &&& (3 : Int32))), .val (.int c), .unset, .unset, .val (.ref b699), .val (.int (7 : Int32)), .val (.int (0 : Int32))]) A708 at_47 rfl ?_
        refine own_aload (q := 51) (v := (.ref b699)) A708 at_49 rfl rfl ?_
        refine own_iload (q := 53) (v := (7 : Int32)) A708 at_51 rfl ?_
        refine own_iload (q := 55) (v := c) A708 at_53 rfl ?_
        refine own_stCv (q := 56) A708 V704 7 (by decide) (by decide) (by decide) (Nat.le_of_ble_eq_true rfl) g701 (Or.inr (Or.inr (Or.inr (by obtain ⟨c, q, _⟩ := V704; exact ⟨c, _, q, by decide⟩)))) at_55 ?_
        intro T1193 h1194 sl1195 A1196 W1197 X1198
        have f1199 : Arv Z h1194 b699 k700 .char (9 : Int32) [(.int (114 : Int32)), (.int (101 : Int32)), (.int (100 : Int32)), (.int (105 : Int32)), (.int (114 : Int32)), (.int (101 : Int32)), (.int (99 : Int32)), (.int (nar .char c)), (.int (115 : Int32))] (.int 0) := X1198
        have f1200 : Arv Z h1194 b699 k700 .char (9 : Int32) [(.int (114 : Int32)), (.int (101 : Int32)), (.int (100 : Int32)), (.int (105 : Int32)), (.int (114 : Int32)), (.int (101 : Int32)), (.int (99 : Int32)), (.int c), (.int (115 : Int32))] (.int 0) := by
          have q := f1199
          rw [hnc] at q
          exact q
        refine own_newO (q := 59) A1196 (hw _ (List.mem_of_getElem? (i := 6) rfl)) (hw _ (List.mem_of_getElem? (i := 7) rfl)) (hw _ (List.mem_of_getElem? (i := 8) rfl)) at_56 (by decide) (by decide) ?_
        intro T1201 h1202 a1203 g1204 g1205 A1206 E1207 X1208 D1209
        have z1210 : b699 ≠ a1203 := Nat.ne_of_lt (Nat.lt_of_lt_of_le f1200.lt (Nat.le_of_eq g1204))
        have f1211 : Arv Z h1202 b699 k700 .char (9 : Int32) [(.int (114 : Int32)), (.int (101 : Int32)), (.int (100 : Int32)), (.int (105 : Int32)), (.int (114 : Int32)), (.int (101 : Int32)), (.int (99 : Int32)), (.int c), (.int (115 : Int32))] (.int 0) := f1200.ext E1207
        have f1212 : Fld Z h1202 a1203 "java/lang/String" "value" "[B" .null := D1209 (Or.inr (hw _ (List.mem_of_getElem? (i := 34) rfl))) (ty := (.array .byte)) (by decide)
        have f1213 : Fld Z h1202 a1203 "java/lang/String" "coder" "B" (.int (0 : Int32)) := D1209 (Or.inr (hw _ (List.mem_of_getElem? (i := 32) rfl))) (ty := .byte) (by decide)
        refine own_dup (q := 60) A1206 at_59 rfl ?_
        refine own_aload (q := 62) (v := (.ref b699)) A1206 at_60 rfl rfl ?_
        refine own_special (q := 65) (W := 1) (argsL := [(.ref b699)]) (rest := [(.ref a1203)]) A1206 rfl (hw _ (List.mem_of_getElem? (i := 9) rfl)) (hw _ (List.mem_of_getElem? (i := 10) rfl)) (hw _ (List.mem_of_getElem? (i := 11) rfl)) (by decide) (own_payV (cs := [(114 : Int32), (101 : Int32), (100 : Int32), (105 : Int32), (114 : Int32), (101 : Int32), (99 : Int32), c, (115 : Int32)]) (bs := _) (n := 9) (N := 9) (kI := 4) (own_wV hw) (hw _ (List.mem_of_getElem? (i := 7) rfl)) A1206.old g1205 X1208 f1212 f1213 f1211 SC hz rfl rfl (by decide) (by decide) (own_fc (by decide) (own_fc (by decide) (own_fc (by decide) (own_fc (by decide) (own_fc (by decide) (own_fc (by decide) (own_fc (by decide) (own_fc ⟨hc0, hc1⟩ (own_fc (by decide) (fun _ z => nomatch z)))))))))) rfl (by decide) (by decide)) (by simp) (Nat.le_of_eq rfl) own_pd8 rfl rfl rfl at_62 (by decide) (by decide) ?_
        rintro v1223 T1224 h1225 A1226 ⟨rfl, K1214, E1215, C1216, t1217, k1218, g1219, g1220, V1221, K1222⟩
        show own_Run p e below Q m T1224 65 #[.val (.int i0), .val (.int i1), .val (.int i2), .val (.int i3), .val (.int (i0 &&& (3 : Int32))), .val (.int c), .unset, .unset, .val (.ref b699), .val (.int (7 : Int32)), .val (.int (0 : Int32))] [(.ref a1203)]
        refine own_astore (q := 67) (L' := #[.val (.int i0), .val (.int i1), .val (.int i2), .val (.int i3), .val (.int (i0 &&& (3 : Int32))), .val (.int c), .val (.ref a1203), .unset, .val (.ref b699), .val (.int (7 : Int32)), .val (.int (0 : Int32))]) A1226 at_65 rfl rfl ?_
        refine own_iload (q := 69) (v := (0 : Int32)) A1226 at_67 rfl ?_
        refine own_istore (q := 71) (L' := #[.val (.int i0), .val (.int i1), .val (.int i2), .val (.int i3), .val (.int (i0 &&& (3 : Int32))), .val (.int c), .val (.ref a1203), .val (.int (0 : Int32)), .val (.ref b699), .val (.int (7 : Int32)), .val (.int (0 : Int32))]) A1226 at_69 rfl ?_
        refine own_goto (q := 232) A1226 at_71 ?_
        exact rm_tail0 l Z a0 hw zc dA uA a1203 t1217 k1218 [(114 : Int32), (101 : Int32), (100 : Int32), (105 : Int32), (114 : Int32), (101 : Int32), (99 : Int32), c, (115 : Int32)] 9 _ h1225 n0 hEL SC hz SD SU E1215 V1221 C1216 K1222 (own_cod [(114 : Int32), (101 : Int32), (100 : Int32), (105 : Int32), (114 : Int32), (101 : Int32), (99 : Int32), c, (115 : Int32)] (n := 9) rfl (fun yy hy => ((show ∀ yy ∈ [(114 : Int32), (101 : Int32), (100 : Int32), (105 : Int32), (114 : Int32), (101 : Int32), (99 : Int32), c, (115 : Int32)], ¬ yy < 0 ∧ ¬ (255 : Int32) < yy from (own_fc (by decide) (own_fc (by decide) (own_fc (by decide) (own_fc (by decide) (own_fc (by decide) (own_fc (by decide) (own_fc (by decide) (own_fc ⟨hc0, hc1⟩ (own_fc (by decide) (fun _ z => nomatch z))))))))))) yy hy).2) rfl rfl) (own_b16 (own_fc (by decide) (own_fc (by decide) (own_fc (by decide) (own_fc (by decide) (own_fc (by decide) (own_fc (by decide) (own_fc (by decide) (own_fc ⟨hc0, hc1⟩ (own_fc (by decide) (fun _ z => nomatch z))))))))))) (Nat.le_of_ble_eq_true rfl) (by intro q; simp at q; exact c1192 q.symm) (Or.inr (Or.inr ⟨_, rfl⟩)) (Or.inr (Or.inl ⟨_, rfl⟩)) hQ (A1226.up (by decide) (by decide))
      · rintro (c1192 : (116 : Int32) = c)
        refine own_iconst (q := 43) A708 (1 : Int32) at_42 rfl ?_
        refine own_goto (q := 47) A708 at_43 ?_
        refine own_istore (q := 49) (L' := #[.val (.int i0), .val (.int i1), .val (.int i2), .val (.int i3), .val (.int (i0 &&& (3 : Int32))), .val (.int c), .unset, .unset, .val (.ref b699), .val (.int (7 : Int32)), .val (.int (1 : Int32))]) A708 at_47 rfl ?_
        refine own_aload (q := 51) (v := (.ref b699)) A708 at_49 rfl rfl ?_
        refine own_iload (q := 53) (v := (7 : Int32)) A708 at_51 rfl ?_
        refine own_iload (q := 55) (v := c) A708 at_53 rfl ?_
        refine own_stCv (q := 56) A708 V704 7 (by decide) (by decide) (by decide) (Nat.le_of_ble_eq_true rfl) g701 (Or.inr (Or.inr (Or.inr (by obtain ⟨c, q, _⟩ := V704; exact ⟨c, _, q, by decide⟩)))) at_55 ?_
        intro T1227 h1228 sl1229 A1230 W1231 X1232
        have f1233 : Arv Z h1228 b699 k700 .char (9 : Int32) [(.int (114 : Int32)), (.int (101 : Int32)), (.int (100 : Int32)), (.int (105 : Int32)), (.int (114 : Int32)), (.int (101 : Int32)), (.int (99 : Int32)), (.int (nar .char c)), (.int (115 : Int32))] (.int 0) := X1232
        have f1234 : Arv Z h1228 b699 k700 .char (9 : Int32) [(.int (114 : Int32)), (.int (101 : Int32)), (.int (100 : Int32)), (.int (105 : Int32)), (.int (114 : Int32)), (.int (101 : Int32)), (.int (99 : Int32)), (.int c), (.int (115 : Int32))] (.int 0) := by
          have q := f1233
          rw [hnc] at q
          exact q
        refine own_newO (q := 59) A1230 (hw _ (List.mem_of_getElem? (i := 6) rfl)) (hw _ (List.mem_of_getElem? (i := 7) rfl)) (hw _ (List.mem_of_getElem? (i := 8) rfl)) at_56 (by decide) (by decide) ?_
        intro T1235 h1236 a1237 g1238 g1239 A1240 E1241 X1242 D1243
        have z1244 : b699 ≠ a1237 := Nat.ne_of_lt (Nat.lt_of_lt_of_le f1234.lt (Nat.le_of_eq g1238))
        have f1245 : Arv Z h1236 b699 k700 .char (9 : Int32) [(.int (114 : Int32)), (.int (101 : Int32)), (.int (100 : Int32)), (.int (105 : Int32)), (.int (114 : Int32)), (.int (101 : Int32)), (.int (99 : Int32)), (.int c), (.int (115 : Int32))] (.int 0) := f1234.ext E1241
        have f1246 : Fld Z h1236 a1237 "java/lang/String" "value" "[B" .null := D1243 (Or.inr (hw _ (List.mem_of_getElem? (i := 34) rfl))) (ty := (.array .byte)) (by decide)
        have f1247 : Fld Z h1236 a1237 "java/lang/String" "coder" "B" (.int (0 : Int32)) := D1243 (Or.inr (hw _ (List.mem_of_getElem? (i := 32) rfl))) (ty := .byte) (by decide)
        refine own_dup (q := 60) A1240 at_59 rfl ?_
        refine own_aload (q := 62) (v := (.ref b699)) A1240 at_60 rfl rfl ?_
        refine own_special (q := 65) (W := 1) (argsL := [(.ref b699)]) (rest := [(.ref a1237)]) A1240 rfl (hw _ (List.mem_of_getElem? (i := 9) rfl)) (hw _ (List.mem_of_getElem? (i := 10) rfl)) (hw _ (List.mem_of_getElem? (i := 11) rfl)) (by decide) (own_payV (cs := [(114 : Int32), (101 : Int32), (100 : Int32), (105 : Int32), (114 : Int32), (101 : Int32), (99 : Int32), c, (115 : Int32)]) (bs := _) (n := 9) (N := 9) (kI := 4) (own_wV hw) (hw _ (List.mem_of_getElem? (i := 7) rfl)) A1240.old g1239 X1242 f1246 f1247 f1245 SC hz rfl rfl (by decide) (by decide) (own_fc (by decide) (own_fc (by decide) (own_fc (by decide) (own_fc (by decide) (own_fc (by decide) (own_fc (by decide) (own_fc (by decide) (own_fc ⟨hc0, hc1⟩ (own_fc (by decide) (fun _ z => nomatch z)))))))))) rfl (by decide) (by decide)) (by simp) (Nat.le_of_eq rfl) own_pd8 rfl rfl rfl at_62 (by decide) (by decide) ?_
        rintro v1257 T1258 h1259 A1260 ⟨rfl, K1248, E1249, C1250, t1251, k1252, g1253, g1254, V1255, K1256⟩
        show own_Run p e below Q m T1258 65 #[.val (.int i0), .val (.int i1), .val (.int i2), .val (.int i3), .val (.int (i0 &&& (3 : Int32))), .val (.int c), .unset, .unset, .val (.ref b699), .val (.int (7 : Int32)), .val (.int (1 : Int32))] [(.ref a1237)]
        refine own_astore (q := 67) (L' := #[.val (.int i0), .val (.int i1), .val (.int i2), .val (.int i3), .val (.int (i0 &&& (3 : Int32))), .val (.int c), .val (.ref a1237), .unset, .val (.ref b699), .val (.int (7 : Int32)), .val (.int (1 : Int32))]) A1260 at_65 rfl rfl ?_
        refine own_iload (q := 69) (v := (1 : Int32)) A1260 at_67 rfl ?_
        refine own_istore (q := 71) (L' := #[.val (.int i0), .val (.int i1), .val (.int i2), .val (.int i3), .val (.int (i0 &&& (3 : Int32))), .val (.int c), .val (.ref a1237), .val (.int (1 : Int32)), .val (.ref b699), .val (.int (7 : Int32)), .val (.int (1 : Int32))]) A1260 at_69 rfl ?_
        refine own_goto (q := 232) A1260 at_71 ?_
        exact rm_tail1 l Z a0 hw zc dA uA a1237 t1251 k1252 [(114 : Int32), (101 : Int32), (100 : Int32), (105 : Int32), (114 : Int32), (101 : Int32), (99 : Int32), c, (115 : Int32)] 9 _ h1259 n0 hEL SC hz SD SU E1249 V1255 C1250 K1256 (own_cod [(114 : Int32), (101 : Int32), (100 : Int32), (105 : Int32), (114 : Int32), (101 : Int32), (99 : Int32), c, (115 : Int32)] (n := 9) rfl (fun yy hy => ((show ∀ yy ∈ [(114 : Int32), (101 : Int32), (100 : Int32), (105 : Int32), (114 : Int32), (101 : Int32), (99 : Int32), c, (115 : Int32)], ¬ yy < 0 ∧ ¬ (255 : Int32) < yy from (own_fc (by decide) (own_fc (by decide) (own_fc (by decide) (own_fc (by decide) (own_fc (by decide) (own_fc (by decide) (own_fc (by decide) (own_fc ⟨hc0, hc1⟩ (own_fc (by decide) (fun _ z => nomatch z))))))))))) yy hy).2) rfl rfl) (own_b16 (own_fc (by decide) (own_fc (by decide) (own_fc (by decide) (own_fc (by decide) (own_fc (by decide) (own_fc (by decide) (own_fc (by decide) (own_fc ⟨hc0, hc1⟩ (own_fc (by decide) (fun _ z => nomatch z))))))))))) (Nat.le_of_ble_eq_true rfl) (by rw [← c1192]) (Or.inr (Or.inr ⟨_, rfl⟩)) (Or.inr (Or.inl ⟨_, rfl⟩)) hQ (A1260.up (by decide) (by decide))
    · rw [qk]
      refine own_istore (q := 32) (L' := #[.val (.int i0), .val (.int i1), .val (.int i2), .val (.int i3), .val (.int (i0 &&& (3 : Int32))), .val (.int c), .unset, .unset, .val (.ref b699), .val (.int (8 : Int32)), .unset]) A708 at_30 rfl ?_
      refine own_aload (q := 34) (v := (.ref b699)) A708 at_32 rfl rfl ?_
      refine own_iload (q := 36) (v := (8 : Int32)) A708 at_34 rfl ?_
      refine own_caloadv (q := 37) (v := (.int (115 : Int32))) A708 V704 8 (by decide) (by decide) (by decide) rfl at_36 ?_
      refine own_iload (q := 39) (v := c) A708 at_37 rfl ?_
      refine own_icmp (q := 46) (q' := 42) A708 at_39 ?_ ?_
      · rintro (c1261 : ¬ (115 : Int32) = c)
        refine own_iconst (q := 47) A708 (0 : Int32) at_46 rfl ?_
        refine own_istore (q := 49) (L' := #[.val (.int i0), .val (.int i1), .val (.int i2), .val (.int i3), .val (.int (i0 &&& (3 : Int32))), .val (.int c), .unset, .unset, .val (.ref b699), .val (.int (8 : Int32)), .val (.int (0 : Int32))]) A708 at_47 rfl ?_
        refine own_aload (q := 51) (v := (.ref b699)) A708 at_49 rfl rfl ?_
        refine own_iload (q := 53) (v := (8 : Int32)) A708 at_51 rfl ?_
        refine own_iload (q := 55) (v := c) A708 at_53 rfl ?_
        refine own_stCv (q := 56) A708 V704 8 (by decide) (by decide) (by decide) (Nat.le_of_ble_eq_true rfl) g701 (Or.inr (Or.inr (Or.inr (by obtain ⟨c, q, _⟩ := V704; exact ⟨c, _, q, by decide⟩)))) at_55 ?_
        intro T1262 h1263 sl1264 A1265 W1266 X1267
        have f1268 : Arv Z h1263 b699 k700 .char (9 : Int32) [(.int (114 : Int32)), (.int (101 : Int32)), (.int (100 : Int32)), (.int (105 : Int32)), (.int (114 : Int32)), (.int (101 : Int32)), (.int (99 : Int32)), (.int (116 : Int32)), (.int (nar .char c))] (.int 0) := X1267
        have f1269 : Arv Z h1263 b699 k700 .char (9 : Int32) [(.int (114 : Int32)), (.int (101 : Int32)), (.int (100 : Int32)), (.int (105 : Int32)), (.int (114 : Int32)), (.int (101 : Int32)), (.int (99 : Int32)), (.int (116 : Int32)), (.int c)] (.int 0) := by
          have q := f1268
          rw [hnc] at q
          exact q
        refine own_newO (q := 59) A1265 (hw _ (List.mem_of_getElem? (i := 6) rfl)) (hw _ (List.mem_of_getElem? (i := 7) rfl)) (hw _ (List.mem_of_getElem? (i := 8) rfl)) at_56 (by decide) (by decide) ?_
        intro T1270 h1271 a1272 g1273 g1274 A1275 E1276 X1277 D1278
        have z1279 : b699 ≠ a1272 := Nat.ne_of_lt (Nat.lt_of_lt_of_le f1269.lt (Nat.le_of_eq g1273))
        have f1280 : Arv Z h1271 b699 k700 .char (9 : Int32) [(.int (114 : Int32)), (.int (101 : Int32)), (.int (100 : Int32)), (.int (105 : Int32)), (.int (114 : Int32)), (.int (101 : Int32)), (.int (99 : Int32)), (.int (116 : Int32)), (.int c)] (.int 0) := f1269.ext E1276
        have f1281 : Fld Z h1271 a1272 "java/lang/String" "value" "[B" .null := D1278 (Or.inr (hw _ (List.mem_of_getElem? (i := 34) rfl))) (ty := (.array .byte)) (by decide)
        have f1282 : Fld Z h1271 a1272 "java/lang/String" "coder" "B" (.int (0 : Int32)) := D1278 (Or.inr (hw _ (List.mem_of_getElem? (i := 32) rfl))) (ty := .byte) (by decide)
        refine own_dup (q := 60) A1275 at_59 rfl ?_
        refine own_aload (q := 62) (v := (.ref b699)) A1275 at_60 rfl rfl ?_
        refine own_special (q := 65) (W := 1) (argsL := [(.ref b699)]) (rest := [(.ref a1272)]) A1275 rfl (hw _ (List.mem_of_getElem? (i := 9) rfl)) (hw _ (List.mem_of_getElem? (i := 10) rfl)) (hw _ (List.mem_of_getElem? (i := 11) rfl)) (by decide) (own_payV (cs := [(114 : Int32), (101 : Int32), (100 : Int32), (105 : Int32), (114 : Int32), (101 : Int32), (99 : Int32), (116 : Int32), c]) (bs := _) (n := 9) (N := 9) (kI := 4) (own_wV hw) (hw _ (List.mem_of_getElem? (i := 7) rfl)) A1275.old g1274 X1277 f1281 f1282 f1280 SC hz rfl rfl (by decide) (by decide) (own_fc (by decide) (own_fc (by decide) (own_fc (by decide) (own_fc (by decide) (own_fc (by decide) (own_fc (by decide) (own_fc (by decide) (own_fc (by decide) (own_fc ⟨hc0, hc1⟩ (fun _ z => nomatch z)))))))))) rfl (by decide) (by decide)) (by simp) (Nat.le_of_eq rfl) own_pd8 rfl rfl rfl at_62 (by decide) (by decide) ?_
        rintro v1292 T1293 h1294 A1295 ⟨rfl, K1283, E1284, C1285, t1286, k1287, g1288, g1289, V1290, K1291⟩
        show own_Run p e below Q m T1293 65 #[.val (.int i0), .val (.int i1), .val (.int i2), .val (.int i3), .val (.int (i0 &&& (3 : Int32))), .val (.int c), .unset, .unset, .val (.ref b699), .val (.int (8 : Int32)), .val (.int (0 : Int32))] [(.ref a1272)]
        refine own_astore (q := 67) (L' := #[.val (.int i0), .val (.int i1), .val (.int i2), .val (.int i3), .val (.int (i0 &&& (3 : Int32))), .val (.int c), .val (.ref a1272), .unset, .val (.ref b699), .val (.int (8 : Int32)), .val (.int (0 : Int32))]) A1295 at_65 rfl rfl ?_
        refine own_iload (q := 69) (v := (0 : Int32)) A1295 at_67 rfl ?_
        refine own_istore (q := 71) (L' := #[.val (.int i0), .val (.int i1), .val (.int i2), .val (.int i3), .val (.int (i0 &&& (3 : Int32))), .val (.int c), .val (.ref a1272), .val (.int (0 : Int32)), .val (.ref b699), .val (.int (8 : Int32)), .val (.int (0 : Int32))]) A1295 at_69 rfl ?_
        refine own_goto (q := 232) A1295 at_71 ?_
        exact rm_tail0 l Z a0 hw zc dA uA a1272 t1286 k1287 [(114 : Int32), (101 : Int32), (100 : Int32), (105 : Int32), (114 : Int32), (101 : Int32), (99 : Int32), (116 : Int32), c] 9 _ h1294 n0 hEL SC hz SD SU E1284 V1290 C1285 K1291 (own_cod [(114 : Int32), (101 : Int32), (100 : Int32), (105 : Int32), (114 : Int32), (101 : Int32), (99 : Int32), (116 : Int32), c] (n := 9) rfl (fun yy hy => ((show ∀ yy ∈ [(114 : Int32), (101 : Int32), (100 : Int32), (105 : Int32), (114 : Int32), (101 : Int32), (99 : Int32), (116 : Int32), c], ¬ yy < 0 ∧ ¬ (255 : Int32) < yy from (own_fc (by decide) (own_fc (by decide) (own_fc (by decide) (own_fc (by decide) (own_fc (by decide) (own_fc (by decide) (own_fc (by decide) (own_fc (by decide) (own_fc ⟨hc0, hc1⟩ (fun _ z => nomatch z))))))))))) yy hy).2) rfl rfl) (own_b16 (own_fc (by decide) (own_fc (by decide) (own_fc (by decide) (own_fc (by decide) (own_fc (by decide) (own_fc (by decide) (own_fc (by decide) (own_fc (by decide) (own_fc ⟨hc0, hc1⟩ (fun _ z => nomatch z))))))))))) (Nat.le_of_ble_eq_true rfl) (by intro q; simp at q; exact c1261 q.symm) (Or.inr (Or.inr ⟨_, rfl⟩)) (Or.inr (Or.inl ⟨_, rfl⟩)) hQ (A1295.up (by decide) (by decide))
      · rintro (c1261 : (115 : Int32) = c)
        refine own_iconst (q := 43) A708 (1 : Int32) at_42 rfl ?_
        refine own_goto (q := 47) A708 at_43 ?_
        refine own_istore (q := 49) (L' := #[.val (.int i0), .val (.int i1), .val (.int i2), .val (.int i3), .val (.int (i0 &&& (3 : Int32))), .val (.int c), .unset, .unset, .val (.ref b699), .val (.int (8 : Int32)), .val (.int (1 : Int32))]) A708 at_47 rfl ?_
        refine own_aload (q := 51) (v := (.ref b699)) A708 at_49 rfl rfl ?_
        refine own_iload (q := 53) (v := (8 : Int32)) A708 at_51 rfl ?_
        refine own_iload (q := 55) (v := c) A708 at_53 rfl ?_
        refine own_stCv (q := 56) A708 V704 8 (by decide) (by decide) (by decide) (Nat.le_of_ble_eq_true rfl) g701 (Or.inr (Or.inr (Or.inr (by obtain ⟨c, q, _⟩ := V704; exact ⟨c, _, q, by decide⟩)))) at_55 ?_
        intro T1296 h1297 sl1298 A1299 W1300 X1301
        have f1302 : Arv Z h1297 b699 k700 .char (9 : Int32) [(.int (114 : Int32)), (.int (101 : Int32)), (.int (100 : Int32)), (.int (105 : Int32)), (.int (114 : Int32)), (.int (101 : Int32)), (.int (99 : Int32)), (.int (116 : Int32)), (.int (nar .char c))] (.int 0) := X1301
        have f1303 : Arv Z h1297 b699 k700 .char (9 : Int32) [(.int (114 : Int32)), (.int (101 : Int32)), (.int (100 : Int32)), (.int (105 : Int32)), (.int (114 : Int32)), (.int (101 : Int32)), (.int (99 : Int32)), (.int (116 : Int32)), (.int c)] (.int 0) := by
          have q := f1302
          rw [hnc] at q
          exact q
        refine own_newO (q := 59) A1299 (hw _ (List.mem_of_getElem? (i := 6) rfl)) (hw _ (List.mem_of_getElem? (i := 7) rfl)) (hw _ (List.mem_of_getElem? (i := 8) rfl)) at_56 (by decide) (by decide) ?_
        intro T1304 h1305 a1306 g1307 g1308 A1309 E1310 X1311 D1312
        have z1313 : b699 ≠ a1306 := Nat.ne_of_lt (Nat.lt_of_lt_of_le f1303.lt (Nat.le_of_eq g1307))
        have f1314 : Arv Z h1305 b699 k700 .char (9 : Int32) [(.int (114 : Int32)), (.int (101 : Int32)), (.int (100 : Int32)), (.int (105 : Int32)), (.int (114 : Int32)), (.int (101 : Int32)), (.int (99 : Int32)), (.int (116 : Int32)), (.int c)] (.int 0) := f1303.ext E1310
        have f1315 : Fld Z h1305 a1306 "java/lang/String" "value" "[B" .null := D1312 (Or.inr (hw _ (List.mem_of_getElem? (i := 34) rfl))) (ty := (.array .byte)) (by decide)
        have f1316 : Fld Z h1305 a1306 "java/lang/String" "coder" "B" (.int (0 : Int32)) := D1312 (Or.inr (hw _ (List.mem_of_getElem? (i := 32) rfl))) (ty := .byte) (by decide)
        refine own_dup (q := 60) A1309 at_59 rfl ?_
        refine own_aload (q := 62) (v := (.ref b699)) A1309 at_60 rfl rfl ?_
        refine own_special (q := 65) (W := 1) (argsL := [(.ref b699)]) (rest := [(.ref a1306)]) A1309 rfl (hw _ (List.mem_of_getElem? (i := 9) rfl)) (hw _ (List.mem_of_getElem? (i := 10) rfl)) (hw _ (List.mem_of_getElem? (i := 11) rfl)) (by decide) (own_payV (cs := [(114 : Int32), (101 : Int32), (100 : Int32), (105 : Int32), (114 : Int32), (101 : Int32), (99 : Int32), (116 : Int32), c]) (bs := _) (n := 9) (N := 9) (kI := 4) (own_wV hw) (hw _ (List.mem_of_getElem? (i := 7) rfl)) A1309.old g1308 X1311 f1315 f1316 f1314 SC hz rfl rfl (by decide) (by decide) (own_fc (by decide) (own_fc (by decide) (own_fc (by decide) (own_fc (by decide) (own_fc (by decide) (own_fc (by decide) (own_fc (by decide) (own_fc (by decide) (own_fc ⟨hc0, hc1⟩ (fun _ z => nomatch z)))))))))) rfl (by decide) (by decide)) (by simp) (Nat.le_of_eq rfl) own_pd8 rfl rfl rfl at_62 (by decide) (by decide) ?_
        rintro v1326 T1327 h1328 A1329 ⟨rfl, K1317, E1318, C1319, t1320, k1321, g1322, g1323, V1324, K1325⟩
        show own_Run p e below Q m T1327 65 #[.val (.int i0), .val (.int i1), .val (.int i2), .val (.int i3), .val (.int (i0 &&& (3 : Int32))), .val (.int c), .unset, .unset, .val (.ref b699), .val (.int (8 : Int32)), .val (.int (1 : Int32))] [(.ref a1306)]
        refine own_astore (q := 67) (L' := #[.val (.int i0), .val (.int i1), .val (.int i2), .val (.int i3), .val (.int (i0 &&& (3 : Int32))), .val (.int c), .val (.ref a1306), .unset, .val (.ref b699), .val (.int (8 : Int32)), .val (.int (1 : Int32))]) A1329 at_65 rfl rfl ?_
        refine own_iload (q := 69) (v := (1 : Int32)) A1329 at_67 rfl ?_
        refine own_istore (q := 71) (L' := #[.val (.int i0), .val (.int i1), .val (.int i2), .val (.int i3), .val (.int (i0 &&& (3 : Int32))), .val (.int c), .val (.ref a1306), .val (.int (1 : Int32)), .val (.ref b699), .val (.int (8 : Int32)), .val (.int (1 : Int32))]) A1329 at_69 rfl ?_
        refine own_goto (q := 232) A1329 at_71 ?_
        exact rm_tail1 l Z a0 hw zc dA uA a1306 t1320 k1321 [(114 : Int32), (101 : Int32), (100 : Int32), (105 : Int32), (114 : Int32), (101 : Int32), (99 : Int32), (116 : Int32), c] 9 _ h1328 n0 hEL SC hz SD SU E1318 V1324 C1319 K1325 (own_cod [(114 : Int32), (101 : Int32), (100 : Int32), (105 : Int32), (114 : Int32), (101 : Int32), (99 : Int32), (116 : Int32), c] (n := 9) rfl (fun yy hy => ((show ∀ yy ∈ [(114 : Int32), (101 : Int32), (100 : Int32), (105 : Int32), (114 : Int32), (101 : Int32), (99 : Int32), (116 : Int32), c], ¬ yy < 0 ∧ ¬ (255 : Int32) < yy from (own_fc (by decide) (own_fc (by decide) (own_fc (by decide) (own_fc (by decide) (own_fc (by decide) (own_fc (by decide) (own_fc (by decide) (own_fc (by decide) (own_fc ⟨hc0, hc1⟩ (fun _ z => nomatch z))))))))))) yy hy).2) rfl rfl) (own_b16 (own_fc (by decide) (own_fc (by decide) (own_fc (by decide) (own_fc (by decide) (own_fc (by decide) (own_fc (by decide) (own_fc (by decide) (own_fc (by decide) (own_fc ⟨hc0, hc1⟩ (fun _ z => nomatch z))))))))))) (Nat.le_of_ble_eq_true rfl) (by rw [← c1261]) (Or.inr (Or.inr ⟨_, rfl⟩)) (Or.inr (Or.inl ⟨_, rfl⟩)) hQ (A1329.up (by decide) (by decide))
set_option maxRecDepth 65536 in
set_option maxHeartbeats 40000000 in
theorem comes_1 {Post : Tables → Env → Array Value → State → Outcome → State → Prop} (hpost : ∀ tb e args s v u, (limb_1_1.after args s (.returned v) u = true ∧ limb_1_2.after args s (.returned v) u = true ∧ True) → ReturnedEndW s (.returned v) u (Jvm.fieldLocs frame_1_writes args s ++ Jvm.arrayLocs frame_1_arrays args s ++ Jvm.staticLocs frame_1_statics s) 40 11456 → Post tb e args s (.returned v) u) :
    ArmFor flags0 classFile x code maxLocals ret World_1 tables_1 room_1 Calls_1 rest_1 Pre_1 Post := by
  intro l hfl _ _ p e ha hc hk s m args below hf hA hF happ hP
  obtain ⟨hcalls, hrest, hpre⟩ := hP
  obtain ⟨-, -, -, hnamed, -, -, -, hat⟩ := (Spec.applies_iff hf).mp happ
  obtain ⟨hg, hn⟩ := and_e (Cond.before_iff.mp (show (Jvm.Cond.and given_1 narrow_1).before args s = true from hpre))
  obtain ⟨g0, hg0⟩ := and_e hg
  obtain ⟨g1, hg1⟩ := and_e hg0
  obtain ⟨g2, hg2⟩ := and_e hg1
  obtain ⟨g3, hg3⟩ := and_e hg2
  have g4 := hg3
  obtain ⟨w0, w1, w2, w3, rfl⟩ : ∃ w0 w1 w2 w3 : Value, args = #[w0, w1, w2, w3] := by
    have hs : args.size = 4 := by simpa [Cond.value, given_1] using g0
    obtain ⟨L⟩ := args
    match L, hs with
    | [w0, w1, w2, w3], _ => exact ⟨w0, w1, w2, w3, rfl⟩
  have hw := fun d (hd : d ∈ tables_1) => atoms_spec (ws := Jvm.Cond.code x code maxLocals ret :: tables_1) hat d (List.mem_cons_of_mem _ hd)
  have hfit : Fit s := fun {y c} hc i hi => by
    obtain ⟨ha, rfl⟩ := Array.getElem?_eq_some_iff.mp hc
    have q := List.all_eq_true.mp ((Array.all_eq_true_iff_forall_mem.mp hF) _ (Array.getElem_mem ha)) i (List.mem_range.mpr hi)
    simpa [Array.getElem?_eq_getElem hi] using q
  obtain ⟨i0, ei0⟩ := is_v g1
  obtain rfl : w0 = (.int i0) := Option.some.inj ei0
  obtain ⟨i1, ei1⟩ := is_v g2
  obtain rfl : w1 = (.int i1) := Option.some.inj ei1
  obtain ⟨i2, ei2⟩ := is_v g3
  obtain rfl : w2 = (.int i2) := Option.some.inj ei2
  obtain ⟨i3, ei3⟩ := is_v g4
  obtain rfl : w3 = (.int i3) := Option.some.inj ei3
  obtain ⟨hsets, hown0⟩ := atoms_of _ (rest_1_c_eq ▸ (show rest_1_c.before _ s = true from hrest))
  obtain ⟨q0, r0⟩ := and_e hn
  have q1 := r0
  have n2 := not_v (Cond.before_iff.mp (hsets _ (List.mem_of_getElem? (i := 2) rfl)))
  obtain ⟨zc, ez⟩ := is_v (Cond.before_iff.mp (hsets _ (List.mem_of_getElem? (i := 1) rfl)))
  have SC := Sta.start ez (Or.inl (hsets _ (List.mem_of_getElem? (i := 0) rfl)))
  have hz : ¬ zc = (0 : Int32) := gotF (Cond.eq_ints ez (Term.int_eval (0))) n2
  obtain ⟨uA, eU⟩ := exa_v q0
  obtain ⟨dA, eD⟩ := exa_v q1
  have SU := Sta.start eU (Or.inr ⟨(hw _ (List.mem_of_getElem? (i := 55) rfl)), (hw _ (List.mem_of_getElem? (i := 56) rfl))⟩)
  have SD := Sta.start eD (Or.inr ⟨(hw _ (List.mem_of_getElem? (i := 55) rfl)), (hw _ (List.mem_of_getElem? (i := 100) rfl))⟩)
  have hEL : EW s _ consts_1 := (EW.cons (hw _ (List.mem_of_getElem? (i := 41) rfl)) (by decide +kernel) (EW.cons (hw _ (List.mem_of_getElem? (i := 57) rfl)) (by decide +kernel) (EW.cons (hw _ (List.mem_of_getElem? (i := 107) rfl)) (by decide +kernel) (EW.cons (hw _ (List.mem_of_getElem? (i := 108) rfl)) (by decide +kernel) (EW.cons (hw _ (List.mem_of_getElem? (i := 105) rfl)) (by decide +kernel) (EW.cons (hw _ (List.mem_of_getElem? (i := 111) rfl)) (by decide +kernel) (EW.cons (hw _ (List.mem_of_getElem? (i := 112) rfl)) (by decide +kernel) (EW.cons (hw _ (List.mem_of_getElem? (i := 110) rfl)) (by decide +kernel) (EW.cons (hw _ (List.mem_of_getElem? (i := 98) rfl)) (by decide +kernel) (EW.cons (hw _ (List.mem_of_getElem? (i := 109) rfl)) (by decide +kernel) (EW.cons (hw _ (List.mem_of_getElem? (i := 106) rfl)) (by decide +kernel) EW.nil)))))))))))
  have hCH : CHv s consts_1 s.vm s.heap := CHv.start hEL (fun p hp => hcalls.1 p hp) (hsets _ (List.mem_of_getElem? (i := 2) rfl)) (hw _ (List.mem_of_getElem? (i := 24) rfl)) (hw _ (List.mem_of_getElem? (i := 7) rfl))
  obtain ⟨n, o, h1, h2, h3, v, L, rfl, ⟨rfl, N, -, -⟩, -, hq⟩ := rm_law l s _ hw tables_1 zc dA uA i0 i1 i2 i3 s.heap s.heap.size (Old.start s) hEL SC hz SD SU p e ha hc hk s m _ below hf ((Spec.applies_iff_loose hf).mp happ).1 ⟨rfl, State.Warmed39.refl s, rfl, hCH, fun _ z => nomatch z⟩ trivial
  have hq' : ReturnedEndW s _ _ L _ _ := hq
  refine ⟨n, _, h1, h2, h3, hpost _ _ _ _ _ _ ⟨Cond.after_iff.mpr rfl, Cond.after_iff.mpr (eq_i res_at (Term.int_eval (1)) rfl), trivial⟩ ⟨hq'.1, hq'.2.1, hq'.2.2.1, (hq'.2.2.2.sift fun y hy => Or.inr (N y hy)).mono (by decide) (by decide)⟩⟩
theorem main_1_1 : Claimed_1_1 := comes_1 fun _ _ _ _ _ _ h hF => ⟨h.1, hF⟩
theorem main_1_2 : Claimed_1_2 := comes_1 fun _ _ _ _ _ _ h hF => ⟨h.2.1, hF⟩
end Jvm.Pilot.@@N@@
namespace Jvm.Pilot.@@N@@
open Jvm Jvm.ClassFile Sem Op Lib Jvm.Free Jvm.Stand Jvm.Pilot.@@N@@.Jvm.D
/-! MADE BY PROGRAM (witnessworld.py) out of the Statement's table words and the real class files: 23 classes; the members and pool entries that the words name. The judged class is class 1, her method 4. -/
namespace start1
open Jvm.ClassFile
def u (s : String) : CpInfo := .utf8 (stringToUtf16 s)
/-- a pool by its gaps: so many unusable entries, then the entry; so many at the end -/
def gap : Nat → List CpInfo → List CpInfo
  | 0, r => r
  | n + 1, r => .unusable :: gap n r
def poolList (es : List (Nat × CpInfo)) (last : Nat) : List CpInfo := es.foldr (fun e r => gap e.1 (e.2 :: r)) (gap last [])
def pool (es : List (Nat × CpInfo)) (last : Nat) : Array CpInfo := ⟨poolList es last⟩
def fileOf (pool : Array CpInfo) (this : Nat) (attrs : Array Attribute := #[]) (ms : Array MethodInfo := #[]) (fl : Nat := 33) (sup : Nat := 0) (ifs : Array Nat := #[]) (fds : Array FieldInfo := #[]) : ClassFile where
  minorVersion := 0
  majorVersion := 65
  constantPool := pool
  accessFlags := fl
  thisClass := this
  superClass := sup
  interfaces := ifs
  fields := fds
  methods := ms
  attributes := attrs
def plain (name : String) (sup : Option ClassId) : Class where
  name := name
  kind := .ordinary
  loader := none
  accessFlags := 33
  super := sup
  interfaces := #[]
  cf := none
  fields := #[]
  methods := #[]
  instanceTypes := #[]
  staticTypes := #[]
  resolved := #[]
  callSites := []
  init := .initialized
  statics := none
  mirror := none

def pool0 : Array CpInfo := pool [(5, u "<init>"), (0, u "()V"), (1, .class_ 10), (1, u "java/lang/Object")] 113

def k0c0 : Code := { maxStack := 0, maxLocals := 1, code := object_method_1_code, exceptionTable := #[], attributes := #[] }
def k0m0 : Method := { name := "<init>", desc := "()V", sig := { parameters := [], returnType := none }, accessFlags := 1, code := some k0c0 }
/-- java/lang/Object -/
def k0 : Class := { plain "java/lang/Object" none with
  accessFlags := 33
  interfaces := #[]
  cf := some (fileOf pool0 8 #[] #[{ accessFlags := 1, nameIndex := 5, descriptorIndex := 6, attributes := #[] }] 33 0 #[] #[])
  fields := #[]
  methods := #[k0m0]
  instanceTypes := #[]
  staticTypes := #[]
  resolved := Array.replicate 124 none
  statics := none }

def pool1 : Array CpInfo := pool [(2, .class_ 4), (1, u "java/lang/Object"), (0, u "<init>"), (0, u "()V"), (0, .methodref 8 9), (0, .class_ 10), (0, .nameAndType 11 12), (0, u "com/example/linkfield/linkfield/core/HttpCheckUnansweredPinLaw"), (0, u "word"), (0, u "()[C"), (0, .class_ 14), (0, u "com/example/linkfield/linkfield/core/HttpCheck"), (0, .string 16), (0, u "timeout"), (0, .string 18), (0, u "refused"), (0, .string 20), (0, u "no-answer"), (0, .string 22), (0, u "unknown-host"), (0, .string 24), (0, u "tls-error"), (0, .string 26), (0, u "not-sent"), (0, .string 28), (0, u "redirects"), (0, .string 30), (0, u "-"), (0, .integer 2147483647), (0, .class_ 33), (0, u "java/lang/String"), (0, .methodref 32 35), (0, .nameAndType 5 36), (0, u "([C)V"), (0, .methodref 8 38), (0, .nameAndType 39 40), (0, u "prefix"), (0, u "(IC)[C"), (0, .methodref 8 42), (0, .nameAndType 43 44), (0, u "constant"), (0, u "(I)Ljava/lang/String;"), (0, .methodref 13 46), (0, .nameAndType 47 48), (0, u "unanswered"), (0, u "(Ljava/lang/String;)Lcom/example/linkfield/linkfield/core/HttpCheck;"), (0, .fieldref 50 51), (0, .class_ 52), (0, .nameAndType 53 54), (0, u "com/example/linkfield/linkfield/core/Verdict"), (0, u "DEAD"), (0, u "Lcom/example/linkfield/linkfield/core/Verdict;"), (0, .fieldref 50 56), (0, .nameAndType 57 54), (0, u "UNREACHABLE"), (0, .methodref 13 59), (0, .nameAndType 60 61), (0, u "verdict"), (0, u "()Lcom/example/linkfield/linkfield/core/Verdict;"), (0, .methodref 13 63), (0, .nameAndType 64 65), (0, u "status"), (0, u "()Ljava/lang/String;"), (0, .methodref 32 67), (0, .nameAndType 68 69), (0, u "equals"), (0, u "(Ljava/lang/Object;)Z"), (0, .methodref 13 71), (0, .nameAndType 72 65), (0, u "location"), (0, .methodref 32 74), (0, .nameAndType 75 76), (0, u "isEmpty"), (0, u "()Z"), (5, u "law"), (0, u "(IIII)Z")] 2

def k1m0 : Method := { name := "<init>", desc := "()V", sig := { parameters := [], returnType := none }, accessFlags := 1, code := none }
def k1c1 : Code := { maxStack := 4, maxLocals := 0, code := method_2_code, exceptionTable := #[], attributes := #[] }
def k1m1 : Method := { name := "word", desc := "()[C", sig := { parameters := [], returnType := some (.array .char) }, accessFlags := 10, code := some k1c1 }
def k1c2 : Code := { maxStack := 4, maxLocals := 4, code := method_3_code, exceptionTable := #[], attributes := #[] }
def k1m2 : Method := { name := "prefix", desc := "(IC)[C", sig := { parameters := [.int, .char], returnType := some (.array .char) }, accessFlags := 10, code := some k1c2 }
def k1c3 : Code := { maxStack := 2, maxLocals := 1, code := method_4_code, exceptionTable := #[], attributes := #[] }
def k1m3 : Method := { name := "constant", desc := "(I)Ljava/lang/String;", sig := { parameters := [.int], returnType := some (.object "java/lang/String") }, accessFlags := 10, code := some k1c3 }
def k1c4 : Code := { maxStack := 4, maxLocals := 11, code := code, exceptionTable := #[], attributes := #[] }
def k1m4 : Method := { name := "law", desc := "(IIII)Z", sig := { parameters := [.int, .int, .int, .int], returnType := some .boolean }, accessFlags := 9, code := some k1c4 }
/-- com/example/linkfield/linkfield/core/HttpCheckUnansweredPinLaw -/
def k1 : Class := { plain "com/example/linkfield/linkfield/core/HttpCheckUnansweredPinLaw" (some 0) with
  accessFlags := 49
  interfaces := #[]
  cf := some (fileOf pool1 8 #[] #[{ accessFlags := 1, nameIndex := 5, descriptorIndex := 6, attributes := #[] }, { accessFlags := 10, nameIndex := 11, descriptorIndex := 12, attributes := #[] }, { accessFlags := 10, nameIndex := 39, descriptorIndex := 40, attributes := #[] }, { accessFlags := 10, nameIndex := 43, descriptorIndex := 44, attributes := #[] }, { accessFlags := 9, nameIndex := 82, descriptorIndex := 83, attributes := #[] }] 49 2 #[] #[])
  fields := #[]
  methods := #[k1m0, k1m1, k1m2, k1m3, k1m4]
  instanceTypes := #[]
  staticTypes := #[]
  resolved := Array.replicate 86 none
  statics := none }

def pool2 : Array CpInfo := pool [(1, .class_ 2), (0, u "java/io/Serializable"), (0, .class_ 4), (0, u "java/lang/Object")] 2

/-- java/io/Serializable -/
def k2 : Class := { plain "java/io/Serializable" (some 0) with
  accessFlags := 1537
  interfaces := #[]
  cf := some (fileOf pool2 1 #[] #[] 1537 3 #[] #[])
  fields := #[]
  methods := #[]
  instanceTypes := #[]
  staticTypes := #[]
  resolved := Array.replicate 7 none
  statics := none }

def pool3 : Array CpInfo := pool [(1, .class_ 2), (0, u "java/lang/Comparable"), (0, .class_ 4), (0, u "java/lang/Object")] 7

/-- java/lang/Comparable -/
def k3 : Class := { plain "java/lang/Comparable" (some 0) with
  accessFlags := 1537
  interfaces := #[]
  cf := some (fileOf pool3 1 #[] #[] 1537 3 #[] #[])
  fields := #[]
  methods := #[]
  instanceTypes := #[]
  staticTypes := #[]
  resolved := Array.replicate 12 none
  statics := none }

def pool4 : Array CpInfo := pool [(2, .class_ 4), (1, u "java/lang/CharSequence"), (42, .class_ 48), (0, u "java/lang/CharSequence$1CodePointIterator"), (10, .class_ 60), (0, u "java/lang/CharSequence$1CharIterator"), (5, .class_ 67), (0, u "java/lang/Object")] 63

/-- java/lang/CharSequence -/
def k4 : Class := { plain "java/lang/CharSequence" (some 0) with
  accessFlags := 1537
  interfaces := #[]
  cf := some (fileOf pool4 2 #[.nestMembers #[47, 59]] #[] 1537 66 #[] #[])
  fields := #[]
  methods := #[]
  instanceTypes := #[]
  staticTypes := #[]
  resolved := Array.replicate 131 none
  statics := none }

def pool5 : Array CpInfo := pool [(1, .class_ 2), (0, u "java/lang/constant/Constable"), (0, .class_ 4), (0, u "java/lang/Object")] 6

/-- java/lang/constant/Constable -/
def k5 : Class := { plain "java/lang/constant/Constable" (some 0) with
  accessFlags := 1537
  interfaces := #[]
  cf := some (fileOf pool5 1 #[] #[] 1537 3 #[] #[])
  fields := #[]
  methods := #[]
  instanceTypes := #[]
  staticTypes := #[]
  resolved := Array.replicate 11 none
  statics := none }

def pool6 : Array CpInfo := pool [(1, .class_ 2), (0, u "java/lang/constant/ConstantDesc"), (0, .class_ 4), (0, u "java/lang/Object")] 32

/-- java/lang/constant/ConstantDesc -/
def k6 : Class := { plain "java/lang/constant/ConstantDesc" (some 0) with
  accessFlags := 1537
  interfaces := #[]
  cf := some (fileOf pool6 1 #[] #[] 1537 3 #[] #[])
  fields := #[]
  methods := #[]
  instanceTypes := #[]
  staticTypes := #[]
  resolved := Array.replicate 37 none
  statics := none }

def pool7 : Array CpInfo := pool [(1, .methodref 2 3), (0, .class_ 4), (0, .nameAndType 5 6), (0, u "java/lang/Object"), (0, u "<init>"), (0, u "()V"), (0, .string 8), (0, u ""), (0, .fieldref 10 11), (0, .class_ 12), (0, .nameAndType 13 14), (0, u "java/lang/String"), (0, u "value"), (0, u "[B"), (0, .fieldref 10 16), (0, .nameAndType 17 18), (0, u "coder"), (0, u "B"), (2, u "hash"), (0, u "I"), (2, u "hashIsZero"), (0, u "Z"), (0, .methodref 10 28), (0, .nameAndType 5 29), (0, u "([CIILjava/lang/Void;)V"), (8, .fieldref 10 39), (0, .nameAndType 40 26), (0, u "COMPACT_STRINGS"), (1, .class_ 44), (1, u "java/lang/StringUTF16"), (0, u "compress"), (1, .methodref 42 48), (0, .nameAndType 49 50), (0, u "coderFromArrayLen"), (0, u "([BI)B"), (56, .class_ 109), (1, u "java/lang/StringLatin1"), (32, u "()Z"), (34, .methodref 42 178), (0, .nameAndType 45 179), (0, u "([CII)[B"), (361, .methodref 107 542), (0, .nameAndType 543 544), (0, u "equals"), (0, u "([B[B)Z"), (28, u "(Ljava/lang/Object;)Z"), (1, .class_ 576), (0, u "java/lang/CharSequence"), (22, u "CASE_INSENSITIVE_ORDER"), (0, u "Ljava/util/Comparator;"), (91, u "isEmpty"), (317, u "([C)V"), (90, u "serialPersistentFields"), (0, u "[Ljava/io/ObjectStreamField;"), (0, .class_ 1104), (0, u "java/lang/String$CaseInsensitiveComparator"), (1, .class_ 1107), (0, u "java/io/Serializable"), (0, .class_ 1109), (0, u "java/lang/Comparable"), (0, .class_ 1111), (0, u "java/lang/constant/Constable"), (0, .class_ 1113), (0, u "java/lang/constant/ConstantDesc"), (2, u "serialVersionUID"), (0, u "J"), (3, u "REPL"), (0, u "C"), (2, u "LATIN1"), (1, u "UTF16")] 323

def k7m0 : Method := { name := "<init>", desc := "()V", sig := { parameters := [], returnType := none }, accessFlags := 1, code := none }
def k7c1 : Code := { maxStack := 5, maxLocals := 2, code := jdk_42_method_3_code, exceptionTable := #[], attributes := #[] }
def k7m1 : Method := { name := "<init>", desc := "([C)V", sig := { parameters := [(.array .char)], returnType := none }, accessFlags := 1, code := some k7c1 }
def k7c2 : Code := { maxStack := 1, maxLocals := 1, code := jdk_42_method_55_code, exceptionTable := #[], attributes := #[] }
def k7m2 : Method := { name := "isEmpty", desc := "()Z", sig := { parameters := [], returnType := some .boolean }, accessFlags := 1, code := some k7c2 }
def k7c3 : Code := { maxStack := 2, maxLocals := 3, code := jdk_42_method_66_code, exceptionTable := #[], attributes := #[] }
def k7m3 : Method := { name := "equals", desc := "(Ljava/lang/Object;)Z", sig := { parameters := [(.object "java/lang/Object")], returnType := some .boolean }, accessFlags := 1, code := some k7c3 }
def k7c4 : Code := { maxStack := 4, maxLocals := 6, code := jdk_42_method_149_code, exceptionTable := #[], attributes := #[] }
def k7m4 : Method := { name := "<init>", desc := "([CIILjava/lang/Void;)V", sig := { parameters := [(.array .char), .int, .int, (.object "java/lang/Void")], returnType := none }, accessFlags := 2, code := some k7c4 }
/-- java/lang/String -/
def k7 : Class := { plain "java/lang/String" (some 0) with
  accessFlags := 49
  interfaces := #[2, 3, 4, 5, 6]
  cf := some (fileOf pool7 10 #[.nestMembers #[1103]] #[{ accessFlags := 1, nameIndex := 5, descriptorIndex := 6, attributes := #[] }, { accessFlags := 1, nameIndex := 5, descriptorIndex := 1010, attributes := #[] }, { accessFlags := 1, nameIndex := 692, descriptorIndex := 142, attributes := #[] }, { accessFlags := 1, nameIndex := 543, descriptorIndex := 573, attributes := #[] }, { accessFlags := 2, nameIndex := 5, descriptorIndex := 29, attributes := #[] }] 49 2 #[1106, 1108, 575, 1110, 1112] #[{ accessFlags := 18, nameIndex := 13, descriptorIndex := 14, attributes := #[] }, { accessFlags := 18, nameIndex := 17, descriptorIndex := 18, attributes := #[] }, { accessFlags := 2, nameIndex := 21, descriptorIndex := 22, attributes := #[] }, { accessFlags := 2, nameIndex := 25, descriptorIndex := 26, attributes := #[] }, { accessFlags := 26, nameIndex := 1116, descriptorIndex := 1117, attributes := #[] }, { accessFlags := 24, nameIndex := 40, descriptorIndex := 26, attributes := #[] }, { accessFlags := 26, nameIndex := 1101, descriptorIndex := 1102, attributes := #[] }, { accessFlags := 26, nameIndex := 1121, descriptorIndex := 1122, attributes := #[] }, { accessFlags := 25, nameIndex := 599, descriptorIndex := 600, attributes := #[] }, { accessFlags := 24, nameIndex := 1125, descriptorIndex := 18, attributes := #[] }, { accessFlags := 24, nameIndex := 1127, descriptorIndex := 18, attributes := #[] }])
  fields := #[{ name := "value", type := (.array .byte), accessFlags := 18, slot := 0, constantValue := 0 }, { name := "coder", type := .byte, accessFlags := 18, slot := 1, constantValue := 0 }, { name := "hash", type := .int, accessFlags := 2, slot := 2, constantValue := 0 }, { name := "hashIsZero", type := .boolean, accessFlags := 2, slot := 3, constantValue := 0 }, { name := "serialVersionUID", type := .long, accessFlags := 26, slot := 0, constantValue := 0 }, { name := "COMPACT_STRINGS", type := .boolean, accessFlags := 24, slot := 1, constantValue := 0 }, { name := "serialPersistentFields", type := (.array (.object "java/io/ObjectStreamField")), accessFlags := 26, slot := 2, constantValue := 0 }, { name := "REPL", type := .char, accessFlags := 26, slot := 3, constantValue := 0 }, { name := "CASE_INSENSITIVE_ORDER", type := (.object "java/util/Comparator"), accessFlags := 25, slot := 4, constantValue := 0 }, { name := "LATIN1", type := .byte, accessFlags := 24, slot := 5, constantValue := 0 }, { name := "UTF16", type := .byte, accessFlags := 24, slot := 6, constantValue := 0 }]
  methods := #[k7m0, k7m1, k7m2, k7m3, k7m4]
  instanceTypes := #[(.array .byte), .byte, .int, .boolean]
  staticTypes := #[.long, .boolean, (.array (.object "java/io/ObjectStreamField")), .char, (.object "java/util/Comparator"), .byte, .byte]
  resolved := Array.replicate 1451 none
  statics := some 0 }

def pool8 : Array CpInfo := pool [(6, .class_ 8), (1, u "java/lang/Object"), (0, u "<init>"), (0, u "()V"), (1, .class_ 14), (1, u "java/lang/StringUTF16"), (31, u "$assertionsDisabled"), (0, u "Z"), (13, u "HI_BYTE_SHIFT"), (0, u "I"), (2, u "LO_BYTE_SHIFT"), (49, .methodref 12 116), (0, .nameAndType 117 118), (0, u "compress"), (0, u "([CI[BII)I"), (3, u "([CII)[B"), (138, u "coderFromArrayLen"), (0, u "([BI)B"), (106, .class_ 371), (1, u "java/lang/StringUTF16$LinesSpliterator"), (58, u "MAX_LENGTH"), (196, .class_ 628), (0, u "java/lang/StringUTF16$CodePointsSpliterator"), (0, .class_ 630), (0, u "java/lang/StringUTF16$CharsSpliterator")] 4

def k8m0 : Method := { name := "<init>", desc := "()V", sig := { parameters := [], returnType := none }, accessFlags := 0, code := none }
def k8c1 : Code := { maxStack := 2, maxLocals := 2, code := jdk_52_method_15_code, exceptionTable := #[], attributes := #[] }
def k8m1 : Method := { name := "coderFromArrayLen", desc := "([BI)B", sig := { parameters := [(.array .byte), .int], returnType := some .byte }, accessFlags := 8, code := some k8c1 }
def k8c2 : Code := { maxStack := 5, maxLocals := 6, code := jdk_52_method_16_code, exceptionTable := #[], attributes := #[] }
def k8m2 : Method := { name := "compress", desc := "([CII)[B", sig := { parameters := [(.array .char), .int, .int], returnType := some (.array .byte) }, accessFlags := 9, code := some k8c2 }
def k8c3 : Code := { maxStack := 3, maxLocals := 7, code := jdk_52_method_21_code, exceptionTable := #[], attributes := #[] }
def k8m3 : Method := { name := "compress", desc := "([CI[BII)I", sig := { parameters := [(.array .char), .int, (.array .byte), .int, .int], returnType := some .int }, accessFlags := 9, code := some k8c3 }
/-- java/lang/StringUTF16 -/
def k8 : Class := { plain "java/lang/StringUTF16" (some 0) with
  accessFlags := 48
  interfaces := #[]
  cf := some (fileOf pool8 12 #[.nestMembers #[627, 629, 369]] #[{ accessFlags := 0, nameIndex := 9, descriptorIndex := 10, attributes := #[] }, { accessFlags := 8, nameIndex := 261, descriptorIndex := 262, attributes := #[] }, { accessFlags := 9, nameIndex := 117, descriptorIndex := 122, attributes := #[] }, { accessFlags := 9, nameIndex := 117, descriptorIndex := 118, attributes := #[] }] 48 6 #[] #[{ accessFlags := 26, nameIndex := 61, descriptorIndex := 62, attributes := #[] }, { accessFlags := 26, nameIndex := 65, descriptorIndex := 62, attributes := #[] }, { accessFlags := 24, nameIndex := 430, descriptorIndex := 62, attributes := #[] }, { accessFlags := 4120, nameIndex := 46, descriptorIndex := 47, attributes := #[] }])
  fields := #[{ name := "HI_BYTE_SHIFT", type := .int, accessFlags := 26, slot := 0, constantValue := 0 }, { name := "LO_BYTE_SHIFT", type := .int, accessFlags := 26, slot := 1, constantValue := 0 }, { name := "MAX_LENGTH", type := .int, accessFlags := 24, slot := 2, constantValue := 0 }, { name := "$assertionsDisabled", type := .boolean, accessFlags := 4120, slot := 3, constantValue := 0 }]
  methods := #[k8m0, k8m1, k8m2, k8m3]
  instanceTypes := #[]
  staticTypes := #[.int, .int, .int, .boolean]
  resolved := Array.replicate 635 none
  statics := none }

def pool9 : Array CpInfo := pool [(1, .methodref 2 3), (0, .class_ 4), (0, .nameAndType 5 6), (0, u "java/lang/Object"), (0, u "<init>"), (0, u "()V"), (0, .class_ 8), (0, u "java/lang/Record")] 13

def k9c0 : Code := { maxStack := 1, maxLocals := 1, code := jdk_30_method_1_code, exceptionTable := #[], attributes := #[] }
def k9m0 : Method := { name := "<init>", desc := "()V", sig := { parameters := [], returnType := none }, accessFlags := 4, code := some k9c0 }
/-- java/lang/Record -/
def k9 : Class := { plain "java/lang/Record" (some 0) with
  accessFlags := 1057
  interfaces := #[]
  cf := some (fileOf pool9 7 #[] #[{ accessFlags := 4, nameIndex := 5, descriptorIndex := 6, attributes := #[] }] 1057 2 #[] #[])
  fields := #[]
  methods := #[k9m0]
  instanceTypes := #[]
  staticTypes := #[]
  resolved := Array.replicate 22 none
  statics := none }

def pool10 : Array CpInfo := pool [(1, .methodref 2 3), (0, .class_ 4), (0, .nameAndType 5 6), (0, u "java/lang/Record"), (0, u "<init>"), (0, u "()V"), (0, .fieldref 8 9), (0, .class_ 10), (0, .nameAndType 11 12), (0, u "com/example/linkfield/linkfield/core/HttpCheck"), (0, u "verdict"), (0, u "Lcom/example/linkfield/linkfield/core/Verdict;"), (0, .fieldref 8 14), (0, .nameAndType 15 16), (0, u "status"), (0, u "Ljava/lang/String;"), (0, .fieldref 8 18), (0, .nameAndType 19 16), (0, u "location"), (0, .string 21), (0, u "redirects"), (0, .methodref 23 24), (0, .class_ 25), (0, .nameAndType 26 27), (0, u "java/lang/String"), (0, u "equals"), (0, u "(Ljava/lang/Object;)Z"), (0, .fieldref 29 30), (0, .class_ 31), (0, .nameAndType 32 12), (0, u "com/example/linkfield/linkfield/core/Verdict"), (0, u "DEAD"), (0, .fieldref 29 34), (0, .nameAndType 35 12), (0, u "UNREACHABLE"), (0, .string 37), (0, u ""), (0, .methodref 8 39), (0, .nameAndType 5 40), (0, u "(Lcom/example/linkfield/linkfield/core/Verdict;Ljava/lang/String;Ljava/lang/String;)V"), (27, u "NOT_CHECKED"), (4, u "Lcom/example/linkfield/linkfield/core/HttpCheck;"), (0, u "TIMEOUT"), (3, u "REFUSED"), (2, u "NO_ANSWER"), (2, u "UNKNOWN_HOST"), (2, u "TLS_ERROR"), (2, u "NOT_SENT"), (2, u "REDIRECTS"), (0, u "NOT_ASKED"), (3, u "unanswered"), (0, u "(Ljava/lang/String;)Lcom/example/linkfield/linkfield/core/HttpCheck;"), (3, u "()Ljava/lang/String;"), (1, u "()Lcom/example/linkfield/linkfield/core/Verdict;")] 23

def k10c0 : Code := { maxStack := 2, maxLocals := 4, code := prog_25_method_1_code, exceptionTable := #[], attributes := #[] }
def k10m0 : Method := { name := "<init>", desc := "(Lcom/example/linkfield/linkfield/core/Verdict;Ljava/lang/String;Ljava/lang/String;)V", sig := { parameters := [(.object "com/example/linkfield/linkfield/core/Verdict"), (.object "java/lang/String"), (.object "java/lang/String")], returnType := none }, accessFlags := 1, code := some k10c0 }
def k10c1 : Code := { maxStack := 5, maxLocals := 1, code := prog_25_method_2_code, exceptionTable := #[], attributes := #[] }
def k10m1 : Method := { name := "unanswered", desc := "(Ljava/lang/String;)Lcom/example/linkfield/linkfield/core/HttpCheck;", sig := { parameters := [(.object "java/lang/String")], returnType := some (.object "com/example/linkfield/linkfield/core/HttpCheck") }, accessFlags := 8, code := some k10c1 }
def k10c2 : Code := { maxStack := 1, maxLocals := 1, code := prog_25_method_7_code, exceptionTable := #[], attributes := #[] }
def k10m2 : Method := { name := "verdict", desc := "()Lcom/example/linkfield/linkfield/core/Verdict;", sig := { parameters := [], returnType := some (.object "com/example/linkfield/linkfield/core/Verdict") }, accessFlags := 1, code := some k10c2 }
def k10c3 : Code := { maxStack := 1, maxLocals := 1, code := prog_25_method_8_code, exceptionTable := #[], attributes := #[] }
def k10m3 : Method := { name := "status", desc := "()Ljava/lang/String;", sig := { parameters := [], returnType := some (.object "java/lang/String") }, accessFlags := 1, code := some k10c3 }
def k10c4 : Code := { maxStack := 1, maxLocals := 1, code := prog_25_method_9_code, exceptionTable := #[], attributes := #[] }
def k10m4 : Method := { name := "location", desc := "()Ljava/lang/String;", sig := { parameters := [], returnType := some (.object "java/lang/String") }, accessFlags := 1, code := some k10c4 }
/-- com/example/linkfield/linkfield/core/HttpCheck -/
def k10 : Class := { plain "com/example/linkfield/linkfield/core/HttpCheck" (some 9) with
  accessFlags := 49
  interfaces := #[]
  cf := some (fileOf pool10 8 #[] #[{ accessFlags := 1, nameIndex := 5, descriptorIndex := 40, attributes := #[] }, { accessFlags := 8, nameIndex := 98, descriptorIndex := 99, attributes := #[] }, { accessFlags := 1, nameIndex := 11, descriptorIndex := 105, attributes := #[] }, { accessFlags := 1, nameIndex := 15, descriptorIndex := 103, attributes := #[] }, { accessFlags := 1, nameIndex := 19, descriptorIndex := 103, attributes := #[] }] 49 2 #[] #[{ accessFlags := 18, nameIndex := 11, descriptorIndex := 12, attributes := #[] }, { accessFlags := 18, nameIndex := 15, descriptorIndex := 16, attributes := #[] }, { accessFlags := 18, nameIndex := 19, descriptorIndex := 16, attributes := #[] }, { accessFlags := 25, nameIndex := 74, descriptorIndex := 16, attributes := #[] }, { accessFlags := 25, nameIndex := 78, descriptorIndex := 16, attributes := #[] }, { accessFlags := 25, nameIndex := 81, descriptorIndex := 16, attributes := #[] }, { accessFlags := 25, nameIndex := 84, descriptorIndex := 16, attributes := #[] }, { accessFlags := 25, nameIndex := 87, descriptorIndex := 16, attributes := #[] }, { accessFlags := 25, nameIndex := 90, descriptorIndex := 16, attributes := #[] }, { accessFlags := 25, nameIndex := 93, descriptorIndex := 16, attributes := #[] }, { accessFlags := 25, nameIndex := 94, descriptorIndex := 16, attributes := #[] }, { accessFlags := 24, nameIndex := 68, descriptorIndex := 73, attributes := #[] }])
  fields := #[{ name := "verdict", type := (.object "com/example/linkfield/linkfield/core/Verdict"), accessFlags := 18, slot := 0, constantValue := 0 }, { name := "status", type := (.object "java/lang/String"), accessFlags := 18, slot := 1, constantValue := 0 }, { name := "location", type := (.object "java/lang/String"), accessFlags := 18, slot := 2, constantValue := 0 }, { name := "TIMEOUT", type := (.object "java/lang/String"), accessFlags := 25, slot := 0, constantValue := 0 }, { name := "REFUSED", type := (.object "java/lang/String"), accessFlags := 25, slot := 1, constantValue := 0 }, { name := "NO_ANSWER", type := (.object "java/lang/String"), accessFlags := 25, slot := 2, constantValue := 0 }, { name := "UNKNOWN_HOST", type := (.object "java/lang/String"), accessFlags := 25, slot := 3, constantValue := 0 }, { name := "TLS_ERROR", type := (.object "java/lang/String"), accessFlags := 25, slot := 4, constantValue := 0 }, { name := "NOT_SENT", type := (.object "java/lang/String"), accessFlags := 25, slot := 5, constantValue := 0 }, { name := "REDIRECTS", type := (.object "java/lang/String"), accessFlags := 25, slot := 6, constantValue := 0 }, { name := "NOT_ASKED", type := (.object "java/lang/String"), accessFlags := 25, slot := 7, constantValue := 0 }, { name := "NOT_CHECKED", type := (.object "com/example/linkfield/linkfield/core/HttpCheck"), accessFlags := 24, slot := 8, constantValue := 0 }]
  methods := #[k10m0, k10m1, k10m2, k10m3, k10m4]
  instanceTypes := #[(.object "com/example/linkfield/linkfield/core/Verdict"), (.object "java/lang/String"), (.object "java/lang/String")]
  staticTypes := #[(.object "java/lang/String"), (.object "java/lang/String"), (.object "java/lang/String"), (.object "java/lang/String"), (.object "java/lang/String"), (.object "java/lang/String"), (.object "java/lang/String"), (.object "java/lang/String"), (.object "com/example/linkfield/linkfield/core/HttpCheck")]
  resolved := Array.replicate 129 none
  statics := none }

def pool11 : Array CpInfo := pool [(4, .class_ 6), (1, u "java/lang/Object"), (0, u "<init>"), (0, u "()V"), (5, .class_ 16), (1, u "java/lang/StringLatin1"), (104, u "$assertionsDisabled"), (0, u "Z"), (98, .class_ 223), (1, u "java/lang/StringLatin1$LinesSpliterator"), (57, u "equals"), (0, u "([B[B)Z"), (107, .class_ 391), (0, u "java/lang/StringLatin1$CharsSpliterator")] 3

def k11m0 : Method := { name := "<init>", desc := "()V", sig := { parameters := [], returnType := none }, accessFlags := 0, code := none }
def k11c1 : Code := { maxStack := 3, maxLocals := 3, code := jdk_43_method_13_code, exceptionTable := #[], attributes := #[] }
def k11m1 : Method := { name := "equals", desc := "([B[B)Z", sig := { parameters := [(.array .byte), (.array .byte)], returnType := some .boolean }, accessFlags := 9, code := some k11c1 }
/-- java/lang/StringLatin1 -/
def k11 : Class := { plain "java/lang/StringLatin1" (some 0) with
  accessFlags := 48
  interfaces := #[]
  cf := some (fileOf pool11 14 #[.nestMembers #[390, 221]] #[{ accessFlags := 0, nameIndex := 7, descriptorIndex := 8, attributes := #[] }, { accessFlags := 9, nameIndex := 281, descriptorIndex := 282, attributes := #[] }] 48 4 #[] #[{ accessFlags := 4120, nameIndex := 121, descriptorIndex := 122, attributes := #[] }])
  fields := #[{ name := "$assertionsDisabled", type := .boolean, accessFlags := 4120, slot := 0, constantValue := 0 }]
  methods := #[k11m0, k11m1]
  instanceTypes := #[]
  staticTypes := #[.boolean]
  resolved := Array.replicate 395 none
  statics := none }

def pool12 : Array CpInfo := pool [(2, .class_ 4), (1, u "java/lang/Enum"), (0, u "name"), (0, u "Ljava/lang/String;"), (2, u "ordinal"), (0, u "I"), (1, .class_ 14), (1, u "java/lang/Object"), (4, u "hash"), (86, .class_ 108), (1, u "java/lang/Enum$EnumDesc"), (2, .class_ 112), (0, u "java/lang/constant/Constable"), (0, .class_ 114), (0, u "java/lang/Comparable"), (0, .class_ 116), (0, u "java/io/Serializable")] 87

/-- java/lang/Enum -/
def k12 : Class := { plain "java/lang/Enum" (some 0) with
  accessFlags := 1057
  interfaces := #[5, 3, 2]
  cf := some (fileOf pool12 2 #[.nestMembers #[106]] #[] 1057 12 #[111, 113, 115] #[{ accessFlags := 18, nameIndex := 5, descriptorIndex := 6, attributes := #[] }, { accessFlags := 18, nameIndex := 9, descriptorIndex := 10, attributes := #[] }, { accessFlags := 2, nameIndex := 19, descriptorIndex := 10, attributes := #[] }])
  fields := #[{ name := "name", type := (.object "java/lang/String"), accessFlags := 18, slot := 0, constantValue := 0 }, { name := "ordinal", type := .int, accessFlags := 18, slot := 1, constantValue := 0 }, { name := "hash", type := .int, accessFlags := 2, slot := 2, constantValue := 0 }]
  methods := #[]
  instanceTypes := #[(.object "java/lang/String"), .int, .int]
  staticTypes := #[]
  resolved := Array.replicate 204 none
  statics := none }

def pool13 : Array CpInfo := pool [(1, .class_ 2), (0, u "com/example/linkfield/linkfield/core/Verdict"), (2, u "ALIVE"), (0, u "Lcom/example/linkfield/linkfield/core/Verdict;"), (2, u "MOVED"), (2, u "RESTRICTED"), (2, u "DEAD"), (2, u "UNREACHABLE"), (2, u "NOT_CHECKED"), (2, u "$VALUES"), (0, u "[Lcom/example/linkfield/linkfield/core/Verdict;"), (6, .class_ 34), (1, u "java/lang/Enum"), (8, u "id"), (0, u "Ljava/lang/String;")] 38

/-- com/example/linkfield/linkfield/core/Verdict -/
def k13 : Class := { plain "com/example/linkfield/linkfield/core/Verdict" (some 12) with
  accessFlags := 16433
  interfaces := #[]
  cf := some (fileOf pool13 1 #[] #[] 16433 32 #[] #[{ accessFlags := 16409, nameIndex := 5, descriptorIndex := 6, attributes := #[] }, { accessFlags := 16409, nameIndex := 9, descriptorIndex := 6, attributes := #[] }, { accessFlags := 16409, nameIndex := 12, descriptorIndex := 6, attributes := #[] }, { accessFlags := 16409, nameIndex := 15, descriptorIndex := 6, attributes := #[] }, { accessFlags := 16409, nameIndex := 18, descriptorIndex := 6, attributes := #[] }, { accessFlags := 16409, nameIndex := 21, descriptorIndex := 6, attributes := #[] }, { accessFlags := 18, nameIndex := 43, descriptorIndex := 44, attributes := #[] }, { accessFlags := 4122, nameIndex := 24, descriptorIndex := 25, attributes := #[] }])
  fields := #[{ name := "ALIVE", type := (.object "com/example/linkfield/linkfield/core/Verdict"), accessFlags := 16409, slot := 0, constantValue := 0 }, { name := "MOVED", type := (.object "com/example/linkfield/linkfield/core/Verdict"), accessFlags := 16409, slot := 1, constantValue := 0 }, { name := "RESTRICTED", type := (.object "com/example/linkfield/linkfield/core/Verdict"), accessFlags := 16409, slot := 2, constantValue := 0 }, { name := "DEAD", type := (.object "com/example/linkfield/linkfield/core/Verdict"), accessFlags := 16409, slot := 3, constantValue := 0 }, { name := "UNREACHABLE", type := (.object "com/example/linkfield/linkfield/core/Verdict"), accessFlags := 16409, slot := 4, constantValue := 0 }, { name := "NOT_CHECKED", type := (.object "com/example/linkfield/linkfield/core/Verdict"), accessFlags := 16409, slot := 5, constantValue := 0 }, { name := "id", type := (.object "java/lang/String"), accessFlags := 18, slot := 3, constantValue := 0 }, { name := "$VALUES", type := (.array (.object "com/example/linkfield/linkfield/core/Verdict")), accessFlags := 4122, slot := 6, constantValue := 0 }]
  methods := #[]
  instanceTypes := #[(.object "java/lang/String"), .int, .int, (.object "java/lang/String")]
  staticTypes := #[(.object "com/example/linkfield/linkfield/core/Verdict"), (.object "com/example/linkfield/linkfield/core/Verdict"), (.object "com/example/linkfield/linkfield/core/Verdict"), (.object "com/example/linkfield/linkfield/core/Verdict"), (.object "com/example/linkfield/linkfield/core/Verdict"), (.object "com/example/linkfield/linkfield/core/Verdict"), (.array (.object "com/example/linkfield/linkfield/core/Verdict"))]
  resolved := Array.replicate 83 none
  statics := some 1 }

def pool14 : Array CpInfo := pool [(2, .class_ 4), (1, u "java/lang/Object"), (0, u "<init>"), (0, u "()V"), (17, .class_ 26), (1, u "jdk/internal/util/Preconditions"), (28, .class_ 56), (0, u "jdk/internal/util/Preconditions$4"), (57, .class_ 115), (0, u "jdk/internal/util/Preconditions$1"), (7, u "SIOOBE_FORMATTER"), (0, u "Ljava/util/function/BiFunction;"), (0, .class_ 126), (0, u "jdk/internal/util/Preconditions$2"), (3, u "AIOOBE_FORMATTER"), (0, .class_ 132), (0, u "jdk/internal/util/Preconditions$3"), (3, u "IOOBE_FORMATTER")] 57

def k14m0 : Method := { name := "<init>", desc := "()V", sig := { parameters := [], returnType := none }, accessFlags := 1, code := none }
/-- jdk/internal/util/Preconditions -/
def k14 : Class := { plain "jdk/internal/util/Preconditions" (some 0) with
  accessFlags := 33
  interfaces := #[]
  cf := some (fileOf pool14 24 #[.nestMembers #[55, 131, 125, 114]] #[{ accessFlags := 1, nameIndex := 5, descriptorIndex := 6, attributes := #[] }] 33 2 #[] #[{ accessFlags := 25, nameIndex := 123, descriptorIndex := 124, attributes := #[] }, { accessFlags := 25, nameIndex := 130, descriptorIndex := 124, attributes := #[] }, { accessFlags := 25, nameIndex := 136, descriptorIndex := 124, attributes := #[] }])
  fields := #[{ name := "SIOOBE_FORMATTER", type := (.object "java/util/function/BiFunction"), accessFlags := 25, slot := 0, constantValue := 0 }, { name := "AIOOBE_FORMATTER", type := (.object "java/util/function/BiFunction"), accessFlags := 25, slot := 1, constantValue := 0 }, { name := "IOOBE_FORMATTER", type := (.object "java/util/function/BiFunction"), accessFlags := 25, slot := 2, constantValue := 0 }]
  methods := #[k14m0]
  instanceTypes := #[]
  staticTypes := #[(.object "java/util/function/BiFunction"), (.object "java/util/function/BiFunction"), (.object "java/util/function/BiFunction")]
  resolved := Array.replicate 194 none
  statics := some 2 }

def pool15 : Array CpInfo := pool [(9, u "<init>"), (6, .class_ 18), (1, u "java/lang/Object"), (0, u "()V"), (1, .class_ 23), (1, u "jdk/internal/util/ArraysSupport"), (0, u "LOG2_ARRAY_LONG_INDEX_SCALE"), (0, u "I"), (2, u "U"), (0, u "Ljdk/internal/misc/Unsafe;"), (8, u "BIG_ENDIAN"), (0, u "Z"), (8, u "LOG2_BYTE_BIT_SIZE"), (4, u "LOG2_ARRAY_INT_INDEX_SCALE"), (54, u "JLA"), (0, u "Ljdk/internal/access/JavaLangAccess;"), (11, u "LOG2_ARRAY_BOOLEAN_INDEX_SCALE"), (9, u "LOG2_ARRAY_BYTE_INDEX_SCALE"), (5, u "LOG2_ARRAY_CHAR_INDEX_SCALE"), (5, u "LOG2_ARRAY_SHORT_INDEX_SCALE"), (18, u "LOG2_ARRAY_FLOAT_INDEX_SCALE"), (24, u "LOG2_ARRAY_DOUBLE_INDEX_SCALE"), (89, u "T_BOOLEAN"), (2, u "T_CHAR"), (1, u "T_FLOAT"), (1, u "T_DOUBLE"), (1, u "T_BYTE"), (1, u "T_SHORT"), (1, u "T_INT"), (1, u "T_LONG"), (1, u "SOFT_MAX_ARRAY_LENGTH")] 83

def k15m0 : Method := { name := "<init>", desc := "()V", sig := { parameters := [], returnType := none }, accessFlags := 2, code := none }
/-- jdk/internal/util/ArraysSupport -/
def k15 : Class := { plain "jdk/internal/util/ArraysSupport" (some 0) with
  accessFlags := 33
  interfaces := #[]
  cf := some (fileOf pool15 21 #[] #[{ accessFlags := 2, nameIndex := 9, descriptorIndex := 19, attributes := #[] }] 33 16 #[] #[{ accessFlags := 24, nameIndex := 28, descriptorIndex := 29, attributes := #[] }, { accessFlags := 26, nameIndex := 38, descriptorIndex := 39, attributes := #[] }, { accessFlags := 25, nameIndex := 121, descriptorIndex := 25, attributes := #[] }, { accessFlags := 25, nameIndex := 131, descriptorIndex := 25, attributes := #[] }, { accessFlags := 25, nameIndex := 137, descriptorIndex := 25, attributes := #[] }, { accessFlags := 25, nameIndex := 143, descriptorIndex := 25, attributes := #[] }, { accessFlags := 25, nameIndex := 53, descriptorIndex := 25, attributes := #[] }, { accessFlags := 25, nameIndex := 24, descriptorIndex := 25, attributes := #[] }, { accessFlags := 25, nameIndex := 162, descriptorIndex := 25, attributes := #[] }, { accessFlags := 25, nameIndex := 187, descriptorIndex := 25, attributes := #[] }, { accessFlags := 26, nameIndex := 48, descriptorIndex := 25, attributes := #[] }, { accessFlags := 25, nameIndex := 277, descriptorIndex := 25, attributes := #[] }, { accessFlags := 25, nameIndex := 280, descriptorIndex := 25, attributes := #[] }, { accessFlags := 25, nameIndex := 282, descriptorIndex := 25, attributes := #[] }, { accessFlags := 25, nameIndex := 284, descriptorIndex := 25, attributes := #[] }, { accessFlags := 25, nameIndex := 286, descriptorIndex := 25, attributes := #[] }, { accessFlags := 25, nameIndex := 288, descriptorIndex := 25, attributes := #[] }, { accessFlags := 25, nameIndex := 290, descriptorIndex := 25, attributes := #[] }, { accessFlags := 25, nameIndex := 292, descriptorIndex := 25, attributes := #[] }, { accessFlags := 26, nameIndex := 108, descriptorIndex := 109, attributes := #[] }, { accessFlags := 25, nameIndex := 294, descriptorIndex := 25, attributes := #[] }])
  fields := #[{ name := "U", type := (.object "jdk/internal/misc/Unsafe"), accessFlags := 24, slot := 0, constantValue := 0 }, { name := "BIG_ENDIAN", type := .boolean, accessFlags := 26, slot := 1, constantValue := 0 }, { name := "LOG2_ARRAY_BOOLEAN_INDEX_SCALE", type := .int, accessFlags := 25, slot := 2, constantValue := 0 }, { name := "LOG2_ARRAY_BYTE_INDEX_SCALE", type := .int, accessFlags := 25, slot := 3, constantValue := 0 }, { name := "LOG2_ARRAY_CHAR_INDEX_SCALE", type := .int, accessFlags := 25, slot := 4, constantValue := 0 }, { name := "LOG2_ARRAY_SHORT_INDEX_SCALE", type := .int, accessFlags := 25, slot := 5, constantValue := 0 }, { name := "LOG2_ARRAY_INT_INDEX_SCALE", type := .int, accessFlags := 25, slot := 6, constantValue := 0 }, { name := "LOG2_ARRAY_LONG_INDEX_SCALE", type := .int, accessFlags := 25, slot := 7, constantValue := 0 }, { name := "LOG2_ARRAY_FLOAT_INDEX_SCALE", type := .int, accessFlags := 25, slot := 8, constantValue := 0 }, { name := "LOG2_ARRAY_DOUBLE_INDEX_SCALE", type := .int, accessFlags := 25, slot := 9, constantValue := 0 }, { name := "LOG2_BYTE_BIT_SIZE", type := .int, accessFlags := 26, slot := 10, constantValue := 0 }, { name := "T_BOOLEAN", type := .int, accessFlags := 25, slot := 11, constantValue := 0 }, { name := "T_CHAR", type := .int, accessFlags := 25, slot := 12, constantValue := 0 }, { name := "T_FLOAT", type := .int, accessFlags := 25, slot := 13, constantValue := 0 }, { name := "T_DOUBLE", type := .int, accessFlags := 25, slot := 14, constantValue := 0 }, { name := "T_BYTE", type := .int, accessFlags := 25, slot := 15, constantValue := 0 }, { name := "T_SHORT", type := .int, accessFlags := 25, slot := 16, constantValue := 0 }, { name := "T_INT", type := .int, accessFlags := 25, slot := 17, constantValue := 0 }, { name := "T_LONG", type := .int, accessFlags := 25, slot := 18, constantValue := 0 }, { name := "JLA", type := (.object "jdk/internal/access/JavaLangAccess"), accessFlags := 26, slot := 19, constantValue := 0 }, { name := "SOFT_MAX_ARRAY_LENGTH", type := .int, accessFlags := 25, slot := 20, constantValue := 0 }]
  methods := #[k15m0]
  instanceTypes := #[]
  staticTypes := #[(.object "jdk/internal/misc/Unsafe"), .boolean, .int, .int, .int, .int, .int, .int, .int, .int, .int, .int, .int, .int, .int, .int, .int, .int, .int, (.object "jdk/internal/access/JavaLangAccess"), .int]
  resolved := Array.replicate 378 none
  statics := none }

def pool16 : Array CpInfo := pool [(1, u "java/lang/Cloneable"), (0, .class_ 1), (0, u "java/lang/Object"), (0, .class_ 3)] 3

/-- java/lang/Cloneable -/
def k16 : Class := { plain "java/lang/Cloneable" (some 0) with
  accessFlags := 1537
  interfaces := #[]
  cf := some (fileOf pool16 2 #[] #[] 1537 4 #[] #[])
  fields := #[]
  methods := #[]
  instanceTypes := #[]
  staticTypes := #[]
  resolved := Array.replicate 8 none
  statics := none }

/-- the primitive byte -/
def k17 : Class := { plain "byte" none with kind := .primitive 'B', accessFlags := 0x411 }
/-- [B -/
def k18 : Class := { plain "[B" (some 0) with kind := .array 17 .byte, interfaces := #[16, 2], accessFlags := 1041 }

/-- the primitive char -/
def k19 : Class := { plain "char" none with kind := .primitive 'C', accessFlags := 0x411 }
/-- [C -/
def k20 : Class := { plain "[C" (some 0) with kind := .array 19 .char, interfaces := #[16, 2], accessFlags := 1041 }

/-- the primitive int -/
def k21 : Class := { plain "int" none with kind := .primitive 'I', accessFlags := 0x411 }
/-- [I -/
def k22 : Class := { plain "[I" (some 0) with kind := .array 21 .int, interfaces := #[16, 2], accessFlags := 1041 }

def heap : Heap := #[{ cls := 7, slots := #[.long 0, .int 1, .null, .int 0, .null, .int 0, .int 0], vm := .statics 7 },
  { cls := 13, slots := #[.null, .null, .null, .ref 4, .ref 3, .null, .null], vm := .statics 13 },
  { cls := 14, slots := #[.null, .null, .null], vm := .statics 14 },
  { cls := 13, slots := #[.null, .int 0, .int 0, .null], vm := .none },
  { cls := 13, slots := #[.null, .int 1, .int 0, .null], vm := .none }]
def classes : Array Class := #[k0, k1, k2, k3, k4, k5, k6, k7, k8, k9, k10, k11, k12, k13, k14, k15, k16, k17, k18, k19, k20, k21, k22]
def interned : List (Array UInt16 × Addr) := []
def slotsUsed : Nat := 25
def theMethod : MethodId := ⟨1, 4⟩
def args0 : Array Value := #[.int 1, .int 5, .int 7, .int 9]
def aboutOver (below : List Frame) : State where
  vm := { classes := classes, interned := interned.toArray }
  heap := heap
  slotsUsed := slotsUsed
  threads := #[{ frames := .invoking theMethod args0 :: below }]
def below0 : List Frame := [.native { method := ⟨0, 0⟩, args := #[] }]
def about1 : State := aboutOver below0
def p0 : Program := .bare "" "" ""
def e0 : Env := launch0.env 0 0 0
theorem w_frames : about1.frames = Frame.invoking theMethod args0 :: below0 := rfl
set_option maxRecDepth 65536 in
theorem w_args : argsFit about1.vm theMethod args0 = true := by decide +kernel
set_option maxRecDepth 65536 in
theorem w_heap : heapFits about1 = true := by decide +kernel
set_option maxRecDepth 65536 in
theorem w_runnable : about1.curStatus? = some .runnable := by decide +kernel
set_option maxRecDepth 65536 in
theorem w_alone : about1.alone = true := by decide +kernel
set_option maxRecDepth 65536 in
theorem w_named : about1.methodNamed? x = some theMethod := by decide +kernel
set_option maxRecDepth 65536 in
theorem w_hears : about1.hears theMethod below0 = true := by decide +kernel
set_option maxRecDepth 65536 in
theorem w_ripe : about1.ripe theMethod args0 below0 = true := by decide +kernel
theorem w_running : about1.status = .running := rfl
set_option maxRecDepth 65536 in
theorem w_room : about1.hasRoom e0.platform room_1 = true :=
  launch0.hasRoom_least _ room_1 (by decide +kernel) (by decide +kernel) (by decide +kernel) (by decide +kernel) (by decide +kernel) (by decide +kernel)
theorem allAtoms_all (ts : List Jvm.Cond) (a : Array Jvm.Value) (st : Jvm.State) : (allAtoms ts).before a st = ts.all (fun c => c.before a st) := by
  induction ts with
  | nil => rfl
  | cons c t ih =>
    show (Jvm.Cond.and c (allAtoms t)).before a st = _
    rw [Jvm.Cond.before_and, ih, List.all_cons]
def words1 : List Jvm.Cond := Jvm.Cond.code x code maxLocals ret :: tables_1
/-- a 'code' word, met by the world's own term for the bytes: nothing is compared byte by byte -/
theorem code_word {y : MethodName} {bytes : ByteArray} {mx : Nat} {rt : Option FieldType} {a : Array Value} {s : State} {m : MethodId} {meth : Method} {c : Code} (h1 : s.methodNamed? y = some m) (h2 : s.vm.method? m = some meth) (h3 : meth.code = some c) (h4 : c.code = bytes)
    (h5 : (c.maxLocals == mx && c.exceptionTable.isEmpty && decide (c.maxStack ≤ mostOperands) && decide (meth.sig.returnType = rt) && !meth.locks && decide (parseMethodDescriptor y.desc = some meth.sig)) = true) : (Jvm.Cond.code y bytes mx rt).before a s = true := by
  simp only [Bool.and_eq_true, beq_iff_eq, Bool.not_eq_true', decide_eq_true_eq] at h5
  obtain ⟨⟨⟨⟨⟨g1, g2⟩, g3⟩, g4⟩, g5⟩, g6⟩ := h5
  simp [Cond.before, Cond.holds, Cond.value, h1, h2, h3, h4, g1, g2, g3, g4, g5, g6]
def isCode : Jvm.Cond → Bool
  | .code _ _ _ _ => true
  | _ => false
theorem all_split {L : List Jvm.Cond} {P : Jvm.Cond → Bool} (h1 : L.all (fun c => isCode c || P c) = true) (h2 : ∀ c ∈ L.filter isCode, P c = true) : L.all P = true := by
  refine List.all_eq_true.mpr fun c hc => ?_
  have h := List.all_eq_true.mp h1 c hc
  rcases Bool.eq_false_or_eq_true (isCode c) with hi | hi
  · exact h2 c (List.mem_filter.mpr ⟨hc, hi⟩)
  · simpa [hi] using h
set_option maxRecDepth 65536 in
theorem w_c0 : (Jvm.Cond.code x code maxLocals ret).before args0 about1 = true := code_word (m := ⟨1, 4⟩) (meth := k1m4) (c := k1c4) (by decide +kernel) rfl rfl rfl (by decide +kernel)
set_option maxRecDepth 65536 in
theorem w_c1 : (Jvm.Cond.code ({ cls := "com/example/linkfield/linkfield/core/HttpCheckUnansweredPinLaw", name := "word", desc := "()[C" } : Jvm.MethodName) method_2_code (0 : Nat) (Option.some (Jvm.ClassFile.FieldType.array Jvm.ClassFile.FieldType.char))).before args0 about1 = true := code_word (m := ⟨1, 1⟩) (meth := k1m1) (c := k1c1) (by decide +kernel) rfl rfl rfl (by decide +kernel)
set_option maxRecDepth 65536 in
theorem w_c2 : (Jvm.Cond.code ({ cls := "java/lang/String", name := "<init>", desc := "([C)V" } : Jvm.MethodName) jdk_42_method_3_code (2 : Nat) (Option.none : Option Jvm.ClassFile.FieldType)).before args0 about1 = true := code_word (m := ⟨7, 1⟩) (meth := k7m1) (c := k7c1) (by decide +kernel) rfl rfl rfl (by decide +kernel)
set_option maxRecDepth 65536 in
theorem w_c3 : (Jvm.Cond.code ({ cls := "java/lang/String", name := "<init>", desc := "([CIILjava/lang/Void;)V" } : Jvm.MethodName) jdk_42_method_149_code (6 : Nat) (Option.none : Option Jvm.ClassFile.FieldType)).before args0 about1 = true := code_word (m := ⟨7, 4⟩) (meth := k7m4) (c := k7c4) (by decide +kernel) rfl rfl rfl (by decide +kernel)
set_option maxRecDepth 65536 in
theorem w_c4 : (Jvm.Cond.code ({ cls := "java/lang/Object", name := "<init>", desc := "()V" } : Jvm.MethodName) object_method_1_code (1 : Nat) (Option.none : Option Jvm.ClassFile.FieldType)).before args0 about1 = true := code_word (m := ⟨0, 0⟩) (meth := k0m0) (c := k0c0) (by decide +kernel) rfl rfl rfl (by decide +kernel)
set_option maxRecDepth 65536 in
theorem w_c5 : (Jvm.Cond.code ({ cls := "java/lang/StringUTF16", name := "compress", desc := "([CII)[B" } : Jvm.MethodName) jdk_52_method_16_code (6 : Nat) (Option.some (Jvm.ClassFile.FieldType.array Jvm.ClassFile.FieldType.byte))).before args0 about1 = true := code_word (m := ⟨8, 2⟩) (meth := k8m2) (c := k8c2) (by decide +kernel) rfl rfl rfl (by decide +kernel)
set_option maxRecDepth 65536 in
theorem w_c6 : (Jvm.Cond.code ({ cls := "java/lang/StringUTF16", name := "compress", desc := "([CI[BII)I" } : Jvm.MethodName) jdk_52_method_21_code (7 : Nat) (Option.some Jvm.ClassFile.FieldType.int)).before args0 about1 = true := code_word (m := ⟨8, 3⟩) (meth := k8m3) (c := k8c3) (by decide +kernel) rfl rfl rfl (by decide +kernel)
set_option maxRecDepth 65536 in
theorem w_c7 : (Jvm.Cond.code ({ cls := "java/lang/StringUTF16", name := "coderFromArrayLen", desc := "([BI)B" } : Jvm.MethodName) jdk_52_method_15_code (2 : Nat) (Option.some Jvm.ClassFile.FieldType.byte)).before args0 about1 = true := code_word (m := ⟨8, 1⟩) (meth := k8m1) (c := k8c1) (by decide +kernel) rfl rfl rfl (by decide +kernel)
set_option maxRecDepth 65536 in
theorem w_c8 : (Jvm.Cond.code ({ cls := "com/example/linkfield/linkfield/core/HttpCheck", name := "unanswered", desc := "(Ljava/lang/String;)Lcom/example/linkfield/linkfield/core/HttpCheck;" } : Jvm.MethodName) prog_25_method_2_code (1 : Nat) (Option.some (Jvm.ClassFile.FieldType.object "com/example/linkfield/linkfield/core/HttpCheck"))).before args0 about1 = true := code_word (m := ⟨10, 1⟩) (meth := k10m1) (c := k10c1) (by decide +kernel) rfl rfl rfl (by decide +kernel)
set_option maxRecDepth 65536 in
theorem w_c9 : (Jvm.Cond.code ({ cls := "java/lang/String", name := "equals", desc := "(Ljava/lang/Object;)Z" } : Jvm.MethodName) jdk_42_method_66_code (3 : Nat) (Option.some Jvm.ClassFile.FieldType.boolean)).before args0 about1 = true := code_word (m := ⟨7, 3⟩) (meth := k7m3) (c := k7c3) (by decide +kernel) rfl rfl rfl (by decide +kernel)
set_option maxRecDepth 65536 in
theorem w_c10 : (Jvm.Cond.code ({ cls := "java/lang/StringLatin1", name := "equals", desc := "([B[B)Z" } : Jvm.MethodName) jdk_43_method_13_code (3 : Nat) (Option.some Jvm.ClassFile.FieldType.boolean)).before args0 about1 = true := code_word (m := ⟨11, 1⟩) (meth := k11m1) (c := k11c1) (by decide +kernel) rfl rfl rfl (by decide +kernel)
set_option maxRecDepth 65536 in
theorem w_c11 : (Jvm.Cond.code ({ cls := "com/example/linkfield/linkfield/core/HttpCheck", name := "<init>", desc := "(Lcom/example/linkfield/linkfield/core/Verdict;Ljava/lang/String;Ljava/lang/String;)V" } : Jvm.MethodName) prog_25_method_1_code (4 : Nat) (Option.none : Option Jvm.ClassFile.FieldType)).before args0 about1 = true := code_word (m := ⟨10, 0⟩) (meth := k10m0) (c := k10c0) (by decide +kernel) rfl rfl rfl (by decide +kernel)
set_option maxRecDepth 65536 in
theorem w_c12 : (Jvm.Cond.code ({ cls := "java/lang/Record", name := "<init>", desc := "()V" } : Jvm.MethodName) jdk_30_method_1_code (1 : Nat) (Option.none : Option Jvm.ClassFile.FieldType)).before args0 about1 = true := code_word (m := ⟨9, 0⟩) (meth := k9m0) (c := k9c0) (by decide +kernel) rfl rfl rfl (by decide +kernel)
set_option maxRecDepth 65536 in
theorem w_c13 : (Jvm.Cond.code ({ cls := "com/example/linkfield/linkfield/core/HttpCheck", name := "verdict", desc := "()Lcom/example/linkfield/linkfield/core/Verdict;" } : Jvm.MethodName) prog_25_method_7_code (1 : Nat) (Option.some (Jvm.ClassFile.FieldType.object "com/example/linkfield/linkfield/core/Verdict"))).before args0 about1 = true := code_word (m := ⟨10, 2⟩) (meth := k10m2) (c := k10c2) (by decide +kernel) rfl rfl rfl (by decide +kernel)
set_option maxRecDepth 65536 in
theorem w_c14 : (Jvm.Cond.code ({ cls := "com/example/linkfield/linkfield/core/HttpCheck", name := "status", desc := "()Ljava/lang/String;" } : Jvm.MethodName) prog_25_method_8_code (1 : Nat) (Option.some (Jvm.ClassFile.FieldType.object "java/lang/String"))).before args0 about1 = true := code_word (m := ⟨10, 3⟩) (meth := k10m3) (c := k10c3) (by decide +kernel) rfl rfl rfl (by decide +kernel)
set_option maxRecDepth 65536 in
theorem w_c15 : (Jvm.Cond.code ({ cls := "com/example/linkfield/linkfield/core/HttpCheck", name := "location", desc := "()Ljava/lang/String;" } : Jvm.MethodName) prog_25_method_9_code (1 : Nat) (Option.some (Jvm.ClassFile.FieldType.object "java/lang/String"))).before args0 about1 = true := code_word (m := ⟨10, 4⟩) (meth := k10m4) (c := k10c4) (by decide +kernel) rfl rfl rfl (by decide +kernel)
set_option maxRecDepth 65536 in
theorem w_c16 : (Jvm.Cond.code ({ cls := "java/lang/String", name := "isEmpty", desc := "()Z" } : Jvm.MethodName) jdk_42_method_55_code (1 : Nat) (Option.some Jvm.ClassFile.FieldType.boolean)).before args0 about1 = true := code_word (m := ⟨7, 2⟩) (meth := k7m2) (c := k7c2) (by decide +kernel) rfl rfl rfl (by decide +kernel)
set_option maxRecDepth 65536 in
theorem w_c17 : (Jvm.Cond.code ({ cls := "com/example/linkfield/linkfield/core/HttpCheckUnansweredPinLaw", name := "constant", desc := "(I)Ljava/lang/String;" } : Jvm.MethodName) method_4_code (1 : Nat) (Option.some (Jvm.ClassFile.FieldType.object "java/lang/String"))).before args0 about1 = true := code_word (m := ⟨1, 3⟩) (meth := k1m3) (c := k1c3) (by decide +kernel) rfl rfl rfl (by decide +kernel)
set_option maxRecDepth 65536 in
theorem w_c18 : (Jvm.Cond.code ({ cls := "com/example/linkfield/linkfield/core/HttpCheckUnansweredPinLaw", name := "prefix", desc := "(IC)[C" } : Jvm.MethodName) method_3_code (4 : Nat) (Option.some (Jvm.ClassFile.FieldType.array Jvm.ClassFile.FieldType.char))).before args0 about1 = true := code_word (m := ⟨1, 2⟩) (meth := k1m2) (c := k1c2) (by decide +kernel) rfl rfl rfl (by decide +kernel)
def codes1 : List Jvm.Cond := [Jvm.Cond.code x code maxLocals ret, Jvm.Cond.code ({ cls := "com/example/linkfield/linkfield/core/HttpCheckUnansweredPinLaw", name := "word", desc := "()[C" } : Jvm.MethodName) method_2_code (0 : Nat) (Option.some (Jvm.ClassFile.FieldType.array Jvm.ClassFile.FieldType.char)), Jvm.Cond.code ({ cls := "java/lang/String", name := "<init>", desc := "([C)V" } : Jvm.MethodName) jdk_42_method_3_code (2 : Nat) (Option.none : Option Jvm.ClassFile.FieldType), Jvm.Cond.code ({ cls := "java/lang/String", name := "<init>", desc := "([CIILjava/lang/Void;)V" } : Jvm.MethodName) jdk_42_method_149_code (6 : Nat) (Option.none : Option Jvm.ClassFile.FieldType), Jvm.Cond.code ({ cls := "java/lang/Object", name := "<init>", desc := "()V" } : Jvm.MethodName) object_method_1_code (1 : Nat) (Option.none : Option Jvm.ClassFile.FieldType), Jvm.Cond.code ({ cls := "java/lang/StringUTF16", name := "compress", desc := "([CII)[B" } : Jvm.MethodName) jdk_52_method_16_code (6 : Nat) (Option.some (Jvm.ClassFile.FieldType.array Jvm.ClassFile.FieldType.byte)), Jvm.Cond.code ({ cls := "java/lang/StringUTF16", name := "compress", desc := "([CI[BII)I" } : Jvm.MethodName) jdk_52_method_21_code (7 : Nat) (Option.some Jvm.ClassFile.FieldType.int), Jvm.Cond.code ({ cls := "java/lang/StringUTF16", name := "coderFromArrayLen", desc := "([BI)B" } : Jvm.MethodName) jdk_52_method_15_code (2 : Nat) (Option.some Jvm.ClassFile.FieldType.byte), Jvm.Cond.code ({ cls := "com/example/linkfield/linkfield/core/HttpCheck", name := "unanswered", desc := "(Ljava/lang/String;)Lcom/example/linkfield/linkfield/core/HttpCheck;" } : Jvm.MethodName) prog_25_method_2_code (1 : Nat) (Option.some (Jvm.ClassFile.FieldType.object "com/example/linkfield/linkfield/core/HttpCheck")), Jvm.Cond.code ({ cls := "java/lang/String", name := "equals", desc := "(Ljava/lang/Object;)Z" } : Jvm.MethodName) jdk_42_method_66_code (3 : Nat) (Option.some Jvm.ClassFile.FieldType.boolean), Jvm.Cond.code ({ cls := "java/lang/StringLatin1", name := "equals", desc := "([B[B)Z" } : Jvm.MethodName) jdk_43_method_13_code (3 : Nat) (Option.some Jvm.ClassFile.FieldType.boolean), Jvm.Cond.code ({ cls := "com/example/linkfield/linkfield/core/HttpCheck", name := "<init>", desc := "(Lcom/example/linkfield/linkfield/core/Verdict;Ljava/lang/String;Ljava/lang/String;)V" } : Jvm.MethodName) prog_25_method_1_code (4 : Nat) (Option.none : Option Jvm.ClassFile.FieldType), Jvm.Cond.code ({ cls := "java/lang/Record", name := "<init>", desc := "()V" } : Jvm.MethodName) jdk_30_method_1_code (1 : Nat) (Option.none : Option Jvm.ClassFile.FieldType), Jvm.Cond.code ({ cls := "com/example/linkfield/linkfield/core/HttpCheck", name := "verdict", desc := "()Lcom/example/linkfield/linkfield/core/Verdict;" } : Jvm.MethodName) prog_25_method_7_code (1 : Nat) (Option.some (Jvm.ClassFile.FieldType.object "com/example/linkfield/linkfield/core/Verdict")), Jvm.Cond.code ({ cls := "com/example/linkfield/linkfield/core/HttpCheck", name := "status", desc := "()Ljava/lang/String;" } : Jvm.MethodName) prog_25_method_8_code (1 : Nat) (Option.some (Jvm.ClassFile.FieldType.object "java/lang/String")), Jvm.Cond.code ({ cls := "com/example/linkfield/linkfield/core/HttpCheck", name := "location", desc := "()Ljava/lang/String;" } : Jvm.MethodName) prog_25_method_9_code (1 : Nat) (Option.some (Jvm.ClassFile.FieldType.object "java/lang/String")), Jvm.Cond.code ({ cls := "java/lang/String", name := "isEmpty", desc := "()Z" } : Jvm.MethodName) jdk_42_method_55_code (1 : Nat) (Option.some Jvm.ClassFile.FieldType.boolean), Jvm.Cond.code ({ cls := "com/example/linkfield/linkfield/core/HttpCheckUnansweredPinLaw", name := "constant", desc := "(I)Ljava/lang/String;" } : Jvm.MethodName) method_4_code (1 : Nat) (Option.some (Jvm.ClassFile.FieldType.object "java/lang/String")), Jvm.Cond.code ({ cls := "com/example/linkfield/linkfield/core/HttpCheckUnansweredPinLaw", name := "prefix", desc := "(IC)[C" } : Jvm.MethodName) method_3_code (4 : Nat) (Option.some (Jvm.ClassFile.FieldType.array Jvm.ClassFile.FieldType.char))]
set_option maxRecDepth 65536 in
theorem codes_eq : words1.filter isCode = codes1 := rfl
theorem w_codes : ∀ c ∈ words1.filter isCode, c.before args0 about1 = true := by
  rw [codes_eq]
  intro c hc
  simp only [codes1, List.mem_cons, List.not_mem_nil, or_false] at hc
  rcases hc with rfl | rfl | rfl | rfl | rfl | rfl | rfl | rfl | rfl | rfl | rfl | rfl | rfl | rfl | rfl | rfl | rfl | rfl | rfl
  · exact w_c0
  · exact w_c1
  · exact w_c2
  · exact w_c3
  · exact w_c4
  · exact w_c5
  · exact w_c6
  · exact w_c7
  · exact w_c8
  · exact w_c9
  · exact w_c10
  · exact w_c11
  · exact w_c12
  · exact w_c13
  · exact w_c14
  · exact w_c15
  · exact w_c16
  · exact w_c17
  · exact w_c18
set_option maxRecDepth 65536 in
theorem w_t1 : (words1.take 24).all (fun c => isCode c || c.before args0 about1) = true := by decide +kernel
set_option maxRecDepth 65536 in
theorem w_t2 : ((words1.drop 24).take 24).all (fun c => isCode c || c.before args0 about1) = true := by decide +kernel
set_option maxRecDepth 65536 in
theorem w_t3 : (((words1.drop 24).drop 24).take 24).all (fun c => isCode c || c.before args0 about1) = true := by decide +kernel
set_option maxRecDepth 65536 in
theorem w_t4 : ((((words1.drop 24).drop 24).drop 24).take 24).all (fun c => isCode c || c.before args0 about1) = true := by decide +kernel
set_option maxRecDepth 65536 in
theorem w_t5 : ((((words1.drop 24).drop 24).drop 24).drop 24).all (fun c => isCode c || c.before args0 about1) = true := by decide +kernel
theorem w_tables : (allAtoms (Jvm.Cond.code x code maxLocals ret :: tables_1)).before args0 about1 = true := by
  rw [allAtoms_all]
  show words1.all (fun c => c.before args0 about1) = true
  refine all_split ?_ w_codes
  rw [← List.take_append_drop 24 words1, List.all_append, w_t1, ← List.take_append_drop 24 (words1.drop 24), List.all_append, w_t2, ← List.take_append_drop 24 ((words1.drop 24).drop 24), List.all_append, w_t3, ← List.take_append_drop 24 (((words1.drop 24).drop 24).drop 24), List.all_append, w_t4, w_t5]
  rfl
set_option maxRecDepth 65536 in
theorem w_rest : rest_1_c.before args0 about1 = true := by decide +kernel
set_option maxRecDepth 65536 in
theorem w_case : (Jvm.Cond.and given_1 narrow_1).before args0 about1 = true := by decide +kernel
set_option maxRecDepth 65536 in
theorem w_consts : constsHeld consts_1 about1 := Jvm.Lit.constsHeldB_iff.mp (by decide +kernel)
theorem w_applies : (headSpec (Jvm.Cond.code x code maxLocals ret :: tables_1) room_1).applies x e0.platform about1 = true :=
  (Spec.applies_iff w_frames).mpr ⟨w_running, w_runnable, w_alone, w_named, w_hears, w_ripe, w_room, w_tables⟩
theorem atStart : AtStart classFile x code maxLocals ret World_1 tables_1 room_1 Calls_1 rest_1 Pre_1 launch0 p0 e0 about1 theMethod args0 below0 :=
  ⟨lists_1, trivial, launch0.admits_env _ _ _, launch0.least_env, fairChoices_fair.cas, fairChoices_fair.clock, w_frames, w_args, w_heap, w_applies, ⟨w_consts, trivial⟩, w_rest, w_case⟩
end start1
theorem witness_1 : WitnessClaimed_1 := ⟨start1.p0, start1.e0, start1.about1, start1.theMethod, start1.args0, start1.below0, start1.atStart⟩
end Jvm.Pilot.@@N@@
